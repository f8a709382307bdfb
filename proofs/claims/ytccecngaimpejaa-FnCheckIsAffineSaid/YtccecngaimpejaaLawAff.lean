/- The walk of the law FnCheckIsAffine: the checks of three texts and of their exclusive or are in the same relation; the call returns true. No condition beyond the lengths that a slice has. -/
import Derived.Test.YtccecngaimpejaaApp
import Derived.Test.YtccecngaimpejaaParts
import Derived.RegionTactic
import Derived.BigRegion
import Derived.Deep.RegionWith
import Derived.Test.YtccecngaimpejaaOrd
namespace Go.Proofs.Ytccecngaimpejaa
open Go.RowKit Go.Lib
open Crc (W)

/-- The first k bytes are those of the exclusive or. -/
def Mixed (w0 : World) (B n : Nat) (l1 l2 l3 : List UInt8) (k : Nat) (w : World) : Prop :=
  Below w0.heap.size w0 w ∧ ∃ xs : List UInt8, xs.length = n ∧ w.ownsRow w0.heap.size 5 1 (.slice (some ⟨B, 0, none⟩) n n) n (vals xs) ∧ ∀ i, i < k → xs[i]? = some (l1.getD i 0 ^^^ l2.getD i 0 ^^^ l3.getD i 0)

theorem Mixed.store {w0 w : World} {B n k : Nat} {l1 l2 l3 : List UInt8} (h : Mixed w0 B n l1 l2 l3 k w) (hB : w0.heap.size ≤ B) (hk : k < n) (z : UInt8) (hz : z = l1.getD k 0 ^^^ l2.getD k 0 ^^^ l3.getD k 0) :
    Mixed w0 B n l1 l2 l3 (k + 1) (w.setCell ⟨B, k, none⟩ (.int .u8 (bnum z))) := by
  obtain ⟨hb, xs, hl, ho, hx⟩ := h
  refine ⟨hb.setCell hB _, xs.set k z, by simp [hl], ?_, fun i hi => ?_⟩
  · have := (ho.stored k (.int .u8 (bnum z))).1
    rw [vals_set] at this
    exact this
  · rw [List.getElem?_set]
    by_cases e : k = i
    · subst e; rw [if_pos rfl, if_pos (by omega), hz]
    · rw [if_neg e]; exact hx i (by omega)


theorem Mixed.drew {w0 w : World} {B n k : Nat} {l1 l2 l3 : List UInt8} (h : Mixed w0 B n l1 l2 l3 k w) : Mixed w0 B n l1 l2 l3 k w.drew := by
  obtain ⟨hb, xs, hl, ho, hx⟩ := h
  exact ⟨hb.drew, xs, hl, ho.drew, hx⟩

theorem Reads.at {w : World} {ao : Option Addr} {l : List UInt8} (h : Reads w ao l) {k : Nat} (hk : k < l.length) : ∃ b off, ao = some ⟨b, off, none⟩ ∧ w.cell? ⟨b, off + k, none⟩ = some (.int .u8 (bnum (l.getD k 0))) := by
  rcases h with rfl | ⟨b, off, he, hc⟩
  · simp at hk
  · exact ⟨b, off, he, hc k hk⟩

theorem Mixed.made {w0 w : World} {B n : Nat} {l1 l2 l3 : List UInt8} (h : w.ownsRow w0.heap.size 5 1 (.slice (some ⟨B, 0, none⟩) n n) n (madeCells #[Value.int .u8 0] n).toList) (hb : Below w0.heap.size w0 w) :
    Mixed w0 B n l1 l2 l3 0 w := by
  refine ⟨hb, List.replicate n 0, by simp, ?_, fun i hi => absurd hi (by omega)⟩
  have e : (madeCells #[Value.int .u8 0] n).toList = vals (List.replicate n 0) := by
    apply List.ext_getElem?
    intro i
    by_cases hi : i < n
    · rw [vals_get _ i (by simp; exact hi)]
      simp [madeCells, hi, bnum, Nat.mod_one]
    · rw [List.getElem?_eq_none (by simp [size_madeCells]; omega), List.getElem?_eq_none (by rw [vals_length]; simp; omega)]
  rw [← e]; exact h

theorem Mixed.there {w0 w : World} {B n k : Nat} {l1 l2 l3 : List UInt8} (h : Mixed w0 B n l1 l2 l3 k w) (hk : k < n) : ∃ v, w.cell? ⟨B, k, none⟩ = some v ∧ w.frozen? ⟨B, k, none⟩ = false := by
  obtain ⟨_, xs, hl, ho, _⟩ := h
  exact ⟨.int .u8 (bnum (xs.getD k 0)), by rw [ho.cellAt k (by omega), vals_get xs k (by omega)], ho.frozenAt k⟩

theorem add_at (b off i : Nat) : (⟨b, off, none⟩ : Addr).add i = ⟨b, off + i, none⟩ := by unfold Addr.add; split <;> simp_all

/-- The least of three lengths, in the walk's spelling. -/
theorem least (n1 n2 n3 : Nat) : ∃ n : Nat, (if (n3 : Int) < (if n2 < n1 then (n2 : Int) else (n1 : Int)) then (n3 : Int) else (if n2 < n1 then (n2 : Int) else (n1 : Int))) = (n : Int) ∧ n ≤ n1 ∧ n ≤ n2 ∧ n ≤ n3 := by
  by_cases h : n2 < n1
  · rw [if_pos h]
    by_cases h' : (n3 : Int) < (n2 : Int)
    · rw [if_pos h']; exact ⟨n3, rfl, by omega, by omega, by omega⟩
    · rw [if_neg h']; exact ⟨n2, rfl, by omega, by omega, by omega⟩
  · rw [if_neg h]
    by_cases h' : (n3 : Int) < (n1 : Int)
    · rw [if_pos h']; exact ⟨n3, rfl, by omega, by omega, by omega⟩
    · rw [if_neg h']; exact ⟨n1, rfl, by omega, by omega, by omega⟩

/-- All that the last statement's region is about. -/
structure Aff where
  ao : Option Addr
  bo : Option Addr
  co : Option Addr
  n1 : Nat
  n2 : Nat
  n3 : Nat
  c1 : Nat
  c2 : Nat
  c3 : Nat
  n : Nat
  B : Nat
  l1 : List UInt8
  l2 : List UInt8
  l3 : List UInt8
  lx : List UInt8

def IsV (u v : Value) (_ : World) : Prop := v = u
def IsBlock (u : Value) (T : TypeId) (v : Value) (w : World) : Prop := ∃ g, v = .slice (some ⟨g, 0, none⟩) 1 1 ∧ w.heap[g]? = some (.cells #[u] T (0, 0))
def IsOuter (v : Value) (w : World) : Prop := ∃ g g', v = .slice (some ⟨g, 0, none⟩) 1 1 ∧ w.heap[g]? = some (.cells #[.slice (some ⟨g', 0, none⟩) 1 1] 27 (0, 0)) ∧ w.heap[g']? = some (.cells #[.int .u8 97] 5 (0, 0))

theorem block_of {w : World} {g : Nat} {o : Obj} (h : w.heap[g]? = some o) : g < w.heap.size := by
  rcases Nat.lt_or_ge g w.heap.size with h' | h'
  · exact h'
  · rw [Array.getElem?_eq_none h'] at h; cases h
theorem IsBlock.keep {u v : Value} {T : TypeId} {w w' : World} (h : IsBlock u T v w) (hb : Below w.heap.size w w') : IsBlock u T v w' := by
  obtain ⟨g, hv, hg⟩ := h
  exact ⟨g, hv, (hb.block g (block_of hg)).trans hg⟩
theorem IsOuter.keep {v : Value} {w w' : World} (h : IsOuter v w) (hb : Below w.heap.size w w') : IsOuter v w' := by
  obtain ⟨g, g', hv, hg, hg'⟩ := h
  exact ⟨g, g', hv, (hb.block g (block_of hg)).trans hg, (hb.block g' (block_of hg')).trans hg'⟩

/-- The check that a text has. -/
def chk (l : List UInt8) : W := Crc.crc Crc.ieee 0#32 l

/-- What each operation leaves in its slot. -/
def Aff.good (s : Aff) : Nat → Value → World → Prop
  | 0 => IsV (.slice (some ⟨s.B, 0, none⟩) s.n s.n)
  | 1 => IsBlock (.slice (some ⟨s.B, 0, none⟩) s.n s.n) 27
  | 2 => IsV (.int .u32 (num (chk s.lx)))
  | 3 => IsV (.slice s.ao s.n1 s.c1)
  | 4 => IsV (.int .i64 s.n)
  | 5 => IsV (.slice s.ao s.n s.c1)
  | 6 => IsBlock (.slice s.ao s.n s.c1) 27
  | 7 => IsV (.int .u32 (num (chk s.l1)))
  | 8 => IsV (.slice s.bo s.n2 s.c2)
  | 9 => IsV (.int .i64 s.n)
  | 10 => IsV (.slice s.bo s.n s.c2)
  | 11 => IsBlock (.slice s.bo s.n s.c2) 27
  | 12 => IsV (.int .u32 (num (chk s.l2)))
  | 13 => IsV (.int .u32 (num (chk s.l1 ^^^ chk s.l2)))
  | 14 => IsV (.slice s.co s.n3 s.c3)
  | 15 => IsV (.int .i64 s.n)
  | 16 => IsV (.slice s.co s.n s.c3)
  | 17 => IsBlock (.slice s.co s.n s.c3) 27
  | 18 => IsV (.int .u32 (num (chk s.l3)))
  | 19 => IsV (.int .u32 (num (chk s.l1 ^^^ chk s.l2 ^^^ chk s.l3)))
  | 20 => IsV (.bool true)
  | 21 => IsV (.bool true)
  | 22 => IsBlock (.int .u8 97) 5
  | 23 => IsOuter
  | 24 => IsV (.int .u32 3904355907)
  | 25 => IsV (.bool true)
  | 26 => IsV (.bool true)
  | 27 => IsV (.bool true)
  | _ => fun _ _ => True

theorem Aff.good_keep (s : Aff) {i : Nat} {v : Value} {w w' : World} (h : s.good i v w) (hb : Below w.heap.size w w') : s.good i v w' := by
  unfold Aff.good at h ⊢
  split at h <;> first | exact h | exact IsBlock.keep h hb | exact IsOuter.keep h hb

/-- The slot that an operation writes. -/
def slotOf (i : Nat) : Nat := if i = 27 then 6 else 55 + i
theorem slotOf_ne {i j : Nat} (hi : i < 28) (hj : j < 28) (h : i ≠ j) : slotOf i ≠ slotOf j := by unfold slotOf; split <;> split <;> omega

structure Inv (s : Aff) (w0 : World) (listed : Array Bool) (a : Act) (w : World) : Prop where
  lsize : listed.size = 28
  size : a.tmps.size = 82
  defers : a.defers = []
  below : Below w0.heap.size w0 w
  s0 : a.tmps[0]?.getD undef = .slice s.ao s.n1 s.c1
  s1 : a.tmps[1]?.getD undef = .slice s.bo s.n2 s.c2
  s2 : a.tmps[2]?.getD undef = .slice s.co s.n3 s.c3
  s7 : a.tmps[7]?.getD undef = .int .i64 s.n
  s8 : a.tmps[8]?.getD undef = .slice (some ⟨s.B, 0, none⟩) s.n s.n
  val : ∀ i, i < 28 → listed[i]?.getD false = true → s.good i (a.tmps[slotOf i]?.getD undef) w

theorem eval_other {a : Act} {d t : Nat} {v : Value} (h : d ≠ t) : (a.put (some d) v).tmps[t]?.getD undef = a.tmps[t]?.getD undef := by
  simp [Act.put, Array.getElem?_setIfInBounds_ne h]
theorem eval_same {a : Act} {d : Nat} {v : Value} (h : d < a.tmps.size) : (a.put (some d) v).tmps[d]?.getD undef = v := by
  simp [Act.put, Array.getElem?_setIfInBounds_self_of_lt h]

theorem Inv.step {s : Aff} {w0 : World} {listed : Array Bool} {a : Act} {w w' : World} {v : Value} (h : Inv s w0 listed a w) (i : Nat) (hi : i < 28) (hb : Below w.heap.size w w') (hg : s.good i v w') :
    Inv s w0 (listed.setIfInBounds i true) (a.put (some (slotOf i)) v) w' := by
  have hd : slotOf i < 82 ∧ 6 ≤ slotOf i ∧ slotOf i ≠ 7 ∧ slotOf i ≠ 8 := by unfold slotOf; split <;> omega
  refine ⟨by simp [h.lsize], by simp [Act.put, h.size], h.defers, h.below.trans (hb.mono h.below.size), ?_, ?_, ?_, ?_, ?_, fun j hj hl => ?_⟩
  · rw [eval_other (by omega)]; exact h.s0
  · rw [eval_other (by omega)]; exact h.s1
  · rw [eval_other (by omega)]; exact h.s2
  · rw [eval_other (by omega)]; exact h.s7
  · rw [eval_other (by omega)]; exact h.s8
  · by_cases e : i = j
    · subst e
      rw [eval_same (by rw [h.size]; exact hd.1)]
      exact hg
    · rw [eval_other (slotOf_ne hi hj e)]
      refine s.good_keep (h.val j hj ?_) hb
      rwa [Array.getElem?_setIfInBounds_ne e] at hl

/-- Behind the first half's answer the guard is a written truth. -/
theorem Inv.sure {s : Aff} {w0 : World} {listed : Array Bool} {a : Act} {w : World} (h : Inv s w0 listed a w) (hl : listed[21]?.getD false = true) : a.tmps[76]? = some (.bool true) := by
  have h1 : a.tmps[76]?.getD undef = .bool true := h.val 21 (by omega) hl
  rw [Array.getElem?_eq_getElem (show 76 < a.tmps.size by rw [h.size]; omega)] at h1 ⊢
  exact congrArg some h1

theorem xor3_length (n : Nat) : ∀ (l m k : List UInt8), l.length = n → m.length = n → k.length = n → (Crc.xor3 l m k).length = n := by
  induction n with
  | zero =>
    intro l m k hl hm hk
    obtain rfl := List.length_eq_zero_iff.1 hl
    rfl
  | succ n ih =>
    intro l m k hl hm hk
    cases l with
    | nil => cases hl
    | cons a l =>
      cases m with
      | nil => cases hm
      | cons b m =>
        cases k with
        | nil => cases hk
        | cons c k =>
          simp only [Crc.xor3, List.length_cons]
          rw [ih l m k (by simpa using hl) (by simpa using hm) (by simpa using hk)]

theorem xor3_get (i : Nat) : ∀ (l m k : List UInt8), i < l.length → i < m.length → i < k.length → (Crc.xor3 l m k)[i]? = some (l.getD i 0 ^^^ m.getD i 0 ^^^ k.getD i 0) := by
  induction i with
  | zero =>
    intro l m k hl hm hk
    cases l with
    | nil => cases hl
    | cons a l =>
      cases m with
      | nil => cases hm
      | cons b m =>
        cases k with
        | nil => cases hk
        | cons c k => rfl
  | succ i ih =>
    intro l m k hl hm hk
    cases l with
    | nil => cases hl
    | cons a l =>
      cases m with
      | nil => cases hm
      | cons b m =>
        cases k with
        | nil => cases hk
        | cons c k =>
          have := ih l m k (by simpa using hl) (by simpa using hm) (by simpa using hk)
          simpa [Crc.xor3] using this

theorem getD_take (l : List UInt8) (n i : Nat) (h : i < n) : (l.take n).getD i 0 = l.getD i 0 := by
  rw [List.getD_eq_getElem?_getD, List.getD_eq_getElem?_getD, List.getElem?_take, if_pos h]

/-- The mixed text's check. -/
theorem mixed_chk {l1 l2 l3 xs : List UInt8} {n : Nat} (h1 : n ≤ l1.length) (h2 : n ≤ l2.length) (h3 : n ≤ l3.length) (hl : xs.length = n) (hx : ∀ i, i < n → xs[i]? = some (l1.getD i 0 ^^^ l2.getD i 0 ^^^ l3.getD i 0)) :
    chk xs = chk (l1.take n) ^^^ chk (l2.take n) ^^^ chk (l3.take n) := by
  have e1 : (l1.take n).length = n := by rw [List.length_take]; omega
  have e2 : (l2.take n).length = n := by rw [List.length_take]; omega
  have e3 : (l3.take n).length = n := by rw [List.length_take]; omega
  have e : xs = Crc.xor3 (l1.take n) (l2.take n) (l3.take n) := by
    apply List.ext_getElem?
    intro i
    by_cases hi : i < n
    · rw [hx i hi, xor3_get i _ _ _ (by omega) (by omega) (by omega), getD_take _ _ _ hi, getD_take _ _ _ hi, getD_take _ _ _ hi]
    · rw [List.getElem?_eq_none (by omega), List.getElem?_eq_none (by rw [xor3_length n _ _ _ e1 e2 e3]; omega)]
  unfold chk
  rw [e]
  exact Crc.crc_affine _ _ _ _ (by omega) (by omega)

theorem take_reads {w : World} {ao : Option Addr} {l : List UInt8} (h : Reads w ao l) (n : Nat) : Reads w ao (l.take n) := by
  rcases h with rfl | ⟨b, off, he, hc⟩
  · exact Or.inl (by simp)
  · refine Or.inr ⟨b, off, he, fun i hi => ?_⟩
    rw [List.length_take] at hi
    rw [getD_take _ _ _ (by omega)]
    exact hc i (by omega)

/-- The check of one part, in whatever block it lies. -/
theorem check_block {q : Part} {w : World} {g : Nat} {T : TypeId} (hg : w.heap[g]? = some (.cells #[q.val] T (0, 0))) (hq : q.ok w) :
    Calls Try.prog 16 #[.slice (some ⟨g, 0, none⟩) 1 1] w fun e w' => e = .returned (.int .u32 (num (chk q.l))) ∧ Below w.heap.size w w' := by
  have h := check_any (some ⟨g, 0, none⟩) 1 1 [q] w rfl (by omega) ⟨fun q' hq' => by rw [List.mem_singleton] at hq'; subst hq'; exact hq, Or.inr ⟨g, 0, rfl, block_of hg, fun i q' hq' => by
    cases i with
    | zero =>
      obtain rfl : q = q' := by simpa using hq'
      rw [cell_of_row _ _ _ _ _ _ hg]; rfl
    | succ i => simp at hq'⟩⟩
  refine h.mono ?_
  rintro e w' ⟨rfl, hb⟩
  exact ⟨by simp [bytesOf, chk], hb⟩

theorem part_at {w : World} {g : Nat} {T : TypeId} (hg : w.heap[g]? = some (.cells #[.int .u8 97] T (0, 0))) : Part.ok w ⟨some ⟨g, 0, none⟩, 1, 1, [97]⟩ :=
  ⟨rfl, show 1 ≤ 9223372036854775807 by omega, show 1 ≤ 1 by omega, Or.inr ⟨g, 0, rfl, fun i hi => by
    have h0 : i = 0 := by simp at hi; omega
    subst h0
    rw [cell_of_row _ _ _ _ _ _ hg]
    rfl⟩, fun h => by cases h⟩

/-- What the statement knows of its parts. -/
structure Aff.ok (s : Aff) (w : World) : Prop where
  x : Part.ok w ⟨some ⟨s.B, 0, none⟩, s.n, s.n, s.lx⟩
  a : Part.ok w ⟨s.ao, s.n, s.c1, s.l1⟩
  b : Part.ok w ⟨s.bo, s.n, s.c2, s.l2⟩
  c : Part.ok w ⟨s.co, s.n, s.c3, s.l3⟩
  sum : chk s.lx = chk s.l1 ^^^ chk s.l2 ^^^ chk s.l3

set_option maxRecDepth 100000 in
set_option maxHeartbeats 1000000 in
theorem aff_long (ao bo co : Option Addr) (n1 n2 n3 c1 c2 c3 : Nat) (l1 l2 l3 : List UInt8) (w : World)
    (h1 : l1.length = n1 ∧ n1 ≤ 9223372036854775807 ∧ n1 ≤ c1 ∧ Reads w ao l1 ∧ (ao = none → c1 = 0))
    (h2 : l2.length = n2 ∧ n2 ≤ 9223372036854775807 ∧ n2 ≤ c2 ∧ Reads w bo l2 ∧ (bo = none → c2 = 0))
    (h3 : l3.length = n3 ∧ n3 ≤ 9223372036854775807 ∧ n3 ≤ c3 ∧ Reads w co l3 ∧ (co = none → c3 = 0))
    (b1 : ¬ 2147483647 < n1) (b2 : ¬ 2147483647 < n2) (b3 : ¬ 2147483647 < n3) :
    Calls Try.prog 7 #[.slice ao n1 c1, .slice bo n2 c2, .slice co n3 c3] w fun e w' => e = .returned (.bool true) ∧ Below w.heap.size w w' := by
  have H1 := Lib.hid h1
  have H2 := Lib.hid h2
  have H3 := Lib.hid h3
  clear h1 h2 h3
  go_enter Try.func7, Try.ntmps7
  obtain ⟨n, hn, hn1, hn2, hn3⟩ := least n1 n2 n3
  obtain ⟨i0, hi, hz0, hz1, hz2⟩ := info_parts info_u8
  have HIF := Lib.hid (And.intro hi (And.intro hz0 (And.intro hz1 hz2)))
  clear hi hz0 hz1 hz2
  go_wp2_with (at_make; refine wpList_make_full _ rfl _ _ 27 rfl w.heap.size 5 i0 (.int .u8 0) 1 Try.underlying27 HIF.out.1 HIF.out.2.1 HIF.out.2.2.1 .i64 .i64 _ _ n rfl rfl rfl rfl ?k1 ?k2 ?k3 ?_)
  case k1 => rw [HIF.out.2.2.2]; omega
  case k2 => unfold maxLen; omega
  case k3 => exact Nat.le_refl _
  intro w1 hown1 hgrow1
  have HM1 := Lib.hid (Mixed.made (l1 := l1) (l2 := l2) (l3 := l3) hown1 ((Below.refl w.heap.size w).grown hgrow1 (Nat.le_refl _) (fun k hk => by cases hk)))
  clear hown1 hgrow1 hn HIF
  go_wp2_with fail
  go_loopw [34] (fun i wr => ∃ k : Nat, k ≤ n ∧ i = .int .i64 k ∧ Mixed w w.heap.size n l1 l2 l3 k wr) (fun i _ => n - (intOf i).toNat)
  case atStart => exact ⟨0, by omega, rfl, HM1.out⟩
  case round =>
    clear HM1
    obtain ⟨k, hk, rfl, hmix⟩ := hrel
    have HX := Lib.hid hmix
    clear hmix
    by_cases hlt : k < n
    · have hi1 : (k : Int) < n1 := by omega
      have hi2 : (k : Int) < n2 := by omega
      have hi3 : (k : Int) < n3 := by omega
      have hi : (k : Int) < n := by omega
      obtain ⟨x1, hx1⟩ : ∃ x, x = l1.getD k 0 := ⟨_, rfl⟩
      obtain ⟨x2, hx2⟩ : ∃ x, x = l2.getD k 0 := ⟨_, rfl⟩
      obtain ⟨x3, hx3⟩ : ∃ x, x = l3.getD k 0 := ⟨_, rfl⟩
      obtain ⟨a1, o1, rfl, hc1⟩ := Reads.at (H1.out.2.2.2.1.keep HX.out.1) (k := k) (by rw [H1.out.1]; omega)
      obtain ⟨a2, o2, rfl, hc2⟩ := Reads.at (H2.out.2.2.2.1.keep HX.out.1) (k := k) (by rw [H2.out.1]; omega)
      obtain ⟨a3, o3, rfl, hc3⟩ := Reads.at (H3.out.2.2.2.1.keep HX.out.1) (k := k) (by rw [H3.out.1]; omega)
      rw [← hx1] at hc1
      rw [← hx2] at hc2
      rw [← hx3] at hc3
      obtain ⟨old, hold, hfree⟩ := HX.out.there hlt
      have HXE := Lib.hid (And.intro hx1 (And.intro hx2 hx3))
      clear hx1 hx2 hx3
      have e12 := bnum_xor x1 x2
      have e123 := bnum_xor (x1 ^^^ x2) x3
      go_wp2_with fail
      go_region
      go_wp2_with fail
      go_roundw
      case rel => exact ⟨k + 1, by omega, by go_num, (HX.out.store (Nat.le_refl _) hlt (x1 ^^^ x2 ^^^ x3) (by rw [HXE.out.1, HXE.out.2.1, HXE.out.2.2])).drew⟩
      case measure => simp [intOf]; omega
    · obtain rfl : k = n := by omega
      go_wp2_with fail
      obtain ⟨hb, xs, hlx, hown, hget⟩ := HX.out
      clear hk hlt HX
      refine (Code.wp_mono (fun _ _ _ h => h) ?_)
      have hok : Aff.ok ⟨ao, bo, co, n1, n2, n3, c1, c2, c3, k, w.heap.size, l1.take k, l2.take k, l3.take k, xs⟩ wr := by
        obtain ⟨ax, cx, hv, hl', hr', hc', hi', _⟩ := owns_reads hown
        simp only [Value.slice.injEq, true_and] at hv
        obtain ⟨rfl, rfl⟩ := hv
        refine ⟨⟨hlx, show k ≤ 9223372036854775807 by omega, show k ≤ k by omega, hr', hi'⟩, ⟨?_, show k ≤ 9223372036854775807 by omega, ?_, ?_, H1.out.2.2.2.2⟩, ⟨?_, show k ≤ 9223372036854775807 by omega, ?_, ?_, H2.out.2.2.2.2⟩, ⟨?_, show k ≤ 9223372036854775807 by omega, ?_, ?_, H3.out.2.2.2.2⟩, ?_⟩
        · show (l1.take k).length = k
          rw [List.length_take, H1.out.1]; omega
        · have := H1.out.2.2.1; show k ≤ c1; omega
        · exact take_reads (H1.out.2.2.2.1.keep hb) k
        · show (l2.take k).length = k
          rw [List.length_take, H2.out.1]; omega
        · have := H2.out.2.2.1; show k ≤ c2; omega
        · exact take_reads (H2.out.2.2.2.1.keep hb) k
        · show (l3.take k).length = k
          rw [List.length_take, H3.out.1]; omega
        · have := H3.out.2.2.1; show k ≤ c3; omega
        · exact take_reads (H3.out.2.2.2.1.keep hb) k
        · exact mixed_chk (by rw [H1.out.1]; exact hn1) (by rw [H2.out.1]; exact hn2) (by rw [H3.out.1]; exact hn3) hlx hget
      obtain ⟨S, hS⟩ : ∃ S : Aff, S = ⟨ao, bo, co, n1, n2, n3, c1, c2, c3, k, w.heap.size, l1.take k, l2.take k, l3.take k, xs⟩ := ⟨_, rfl⟩
      rw [← hS] at hok
      refine wp_region_by (by kernel_rfl) (Inv S wr) (by kernel_rfl) (fun _ _ _ h => h.lsize) ?_ ?_ ?_
      · rw [hS]
        exact ⟨by simp, rfl, rfl, (Below.refl _ _).drew, rfl, rfl, rfl, rfl, rfl, fun i hi hl => by rw [Array.getElem?_replicate] at hl; split at hl <;> cases hl⟩
      · clear hS hown hget hlx H1 H2 H3 hb hn1 hn2 hn3 b1 b2 b3
        refine Steps.one ?_ (Steps.one ?_ (Steps.one ?_ (Steps.one ?_ (Steps.one ?_ (Steps.one ?_ (Steps.one ?_ (Steps.one ?_ (Steps.one ?_ (Steps.one ?_ (Steps.one ?_ (Steps.one ?_ (Steps.one ?_ (Steps.one ?_ (Steps.one ?_ (Steps.one ?_ (Steps.one ?_ (Steps.one ?_ (Steps.one ?_ (Steps.one ?_ (Steps.one ?_ (Steps.one ?_ ?_)))))))))))))))))))))
        · intro listed a w hd hI
          clear hd
          refine wpOp_step rfl (fun K hK => ?_)
          have e := hI.s8
          go_simp
          exact hK _ _ (hI.step 0 (by omega) (Below.refl _ _) rfl)
        · intro listed a w hd hI
          simp [waited, Region.binds] at hd
          have e : a.tmps[55]?.getD undef = .slice (some ⟨S.B, 0, none⟩) S.n S.n := hI.val 0 (by omega) hd
          refine wpOp_step rfl (fun K hK => ?_)
          go_simp
          exact hK _ _ (hI.step 1 (by omega) ((Below.refl _ _).alloc (Nat.le_refl _) _) ⟨_, rfl, heap_alloc_new _ _⟩)
        · intro listed a w hd hI
          simp [waited, Region.binds] at hd
          obtain ⟨g, e, hg⟩ : IsBlock _ _ (a.tmps[56]?.getD undef) w := hI.val 1 (by omega) hd
          refine wpOp_step rfl (fun K hK => ?_)
          go_simp
          refine (check_block (q := ⟨some ⟨S.B, 0, none⟩, S.n, S.n, S.lx⟩) hg (hok.x.keep hI.below)).mono ?_
          rintro e1 w1 ⟨rfl, hb⟩
          exact hK _ _ (hI.step 2 (by omega) hb rfl)
        · intro listed a w hd hI
          clear hd
          refine wpOp_step rfl (fun K hK => ?_)
          have e := hI.s0
          go_simp
          exact hK _ _ (hI.step 3 (by omega) (Below.refl _ _) rfl)
        · intro listed a w hd hI
          clear hd
          refine wpOp_step rfl (fun K hK => ?_)
          have e := hI.s7
          go_simp
          exact hK _ _ (hI.step 4 (by omega) (Below.refl _ _) rfl)
        · intro listed a w hd hI
          simp [waited, Region.binds] at hd
          have e1 : a.tmps[58]?.getD undef = .slice S.ao S.n1 S.c1 := hI.val 3 (by omega) hd.1
          have e2 : a.tmps[59]?.getD undef = .int .i64 S.n := hI.val 4 (by omega) hd.2
          refine wpOp_step rfl (fun K hK => ?_)
          have hc : S.n ≤ S.c1 := hok.a.2.2.1
          go_simp
          exact hK _ _ (hI.step 5 (by omega) (Below.refl _ _) rfl)
        · intro listed a w hd hI
          simp [waited, Region.binds] at hd
          have e : a.tmps[60]?.getD undef = .slice S.ao S.n S.c1 := hI.val 5 (by omega) hd
          refine wpOp_step rfl (fun K hK => ?_)
          go_simp
          exact hK _ _ (hI.step 6 (by omega) ((Below.refl _ _).alloc (Nat.le_refl _) _) ⟨_, rfl, heap_alloc_new _ _⟩)
        · intro listed a w hd hI
          simp [waited, Region.binds] at hd
          obtain ⟨g, e, hg⟩ : IsBlock _ _ (a.tmps[61]?.getD undef) w := hI.val 6 (by omega) hd.1
          refine wpOp_step rfl (fun K hK => ?_)
          go_simp
          refine (check_block (q := ⟨S.ao, S.n, S.c1, S.l1⟩) hg (hok.a.keep hI.below)).mono ?_
          rintro e1 w1 ⟨rfl, hb⟩
          exact hK _ _ (hI.step 7 (by omega) hb rfl)
        · intro listed a w hd hI
          clear hd
          refine wpOp_step rfl (fun K hK => ?_)
          have e := hI.s1
          go_simp
          exact hK _ _ (hI.step 8 (by omega) (Below.refl _ _) rfl)
        · intro listed a w hd hI
          clear hd
          refine wpOp_step rfl (fun K hK => ?_)
          have e := hI.s7
          go_simp
          exact hK _ _ (hI.step 9 (by omega) (Below.refl _ _) rfl)
        · intro listed a w hd hI
          simp [waited, Region.binds] at hd
          have e1 : a.tmps[63]?.getD undef = .slice S.bo S.n2 S.c2 := hI.val 8 (by omega) hd.1
          have e2 : a.tmps[64]?.getD undef = .int .i64 S.n := hI.val 9 (by omega) hd.2
          refine wpOp_step rfl (fun K hK => ?_)
          have hc : S.n ≤ S.c2 := hok.b.2.2.1
          go_simp
          exact hK _ _ (hI.step 10 (by omega) (Below.refl _ _) rfl)
        · intro listed a w hd hI
          simp [waited, Region.binds] at hd
          have e : a.tmps[65]?.getD undef = .slice S.bo S.n S.c2 := hI.val 10 (by omega) hd
          refine wpOp_step rfl (fun K hK => ?_)
          go_simp
          exact hK _ _ (hI.step 11 (by omega) ((Below.refl _ _).alloc (Nat.le_refl _) _) ⟨_, rfl, heap_alloc_new _ _⟩)
        · intro listed a w hd hI
          simp [waited, Region.binds] at hd
          obtain ⟨g, e, hg⟩ : IsBlock _ _ (a.tmps[66]?.getD undef) w := hI.val 11 (by omega) hd.1
          refine wpOp_step rfl (fun K hK => ?_)
          go_simp
          refine (check_block (q := ⟨S.bo, S.n, S.c2, S.l2⟩) hg (hok.b.keep hI.below)).mono ?_
          rintro e1 w1 ⟨rfl, hb⟩
          exact hK _ _ (hI.step 12 (by omega) hb rfl)
        · intro listed a w hd hI
          simp [waited, Region.binds] at hd
          have e7 : a.tmps[62]?.getD undef = .int .u32 (num (chk S.l1)) := hI.val 7 (by omega) hd.1
          have e12 : a.tmps[67]?.getD undef = .int .u32 (num (chk S.l2)) := hI.val 12 (by omega) hd.2
          refine wpOp_step rfl (fun K hK => ?_)
          have hx := num_xor (chk S.l1) (chk S.l2)
          go_simp
          exact hK _ _ (hI.step 13 (by omega) (Below.refl _ _) rfl)
        · intro listed a w hd hI
          clear hd
          refine wpOp_step rfl (fun K hK => ?_)
          have e := hI.s2
          go_simp
          exact hK _ _ (hI.step 14 (by omega) (Below.refl _ _) rfl)
        · intro listed a w hd hI
          clear hd
          refine wpOp_step rfl (fun K hK => ?_)
          have e := hI.s7
          go_simp
          exact hK _ _ (hI.step 15 (by omega) (Below.refl _ _) rfl)
        · intro listed a w hd hI
          simp [waited, Region.binds] at hd
          have e1 : a.tmps[69]?.getD undef = .slice S.co S.n3 S.c3 := hI.val 14 (by omega) hd.1
          have e2 : a.tmps[70]?.getD undef = .int .i64 S.n := hI.val 15 (by omega) hd.2
          refine wpOp_step rfl (fun K hK => ?_)
          have hc : S.n ≤ S.c3 := hok.c.2.2.1
          go_simp
          exact hK _ _ (hI.step 16 (by omega) (Below.refl _ _) rfl)
        · intro listed a w hd hI
          simp [waited, Region.binds] at hd
          have e : a.tmps[71]?.getD undef = .slice S.co S.n S.c3 := hI.val 16 (by omega) hd
          refine wpOp_step rfl (fun K hK => ?_)
          go_simp
          exact hK _ _ (hI.step 17 (by omega) ((Below.refl _ _).alloc (Nat.le_refl _) _) ⟨_, rfl, heap_alloc_new _ _⟩)
        · intro listed a w hd hI
          simp [waited, Region.binds] at hd
          obtain ⟨g, e, hg⟩ : IsBlock _ _ (a.tmps[72]?.getD undef) w := hI.val 17 (by omega) hd.1
          refine wpOp_step rfl (fun K hK => ?_)
          go_simp
          refine (check_block (q := ⟨S.co, S.n, S.c3, S.l3⟩) hg (hok.c.keep hI.below)).mono ?_
          rintro e1 w1 ⟨rfl, hb⟩
          exact hK _ _ (hI.step 18 (by omega) hb rfl)
        · intro listed a w hd hI
          simp [waited, Region.binds] at hd
          have e13 : a.tmps[68]?.getD undef = .int .u32 (num (chk S.l1 ^^^ chk S.l2)) := hI.val 13 (by omega) hd.1
          have e18 : a.tmps[73]?.getD undef = .int .u32 (num (chk S.l3)) := hI.val 18 (by omega) hd.2
          refine wpOp_step rfl (fun K hK => ?_)
          have hx := num_xor (chk S.l1 ^^^ chk S.l2) (chk S.l3)
          go_simp
          exact hK _ _ (hI.step 19 (by omega) (Below.refl _ _) rfl)
        · intro listed a w hd hI
          simp [waited, Region.binds] at hd
          have e2 : a.tmps[57]?.getD undef = .int .u32 (num (chk S.l1 ^^^ chk S.l2 ^^^ chk S.l3)) := by rw [← hok.sum]; exact hI.val 2 (by omega) hd.1
          have e19 : a.tmps[74]?.getD undef = .int .u32 (num (chk S.l1 ^^^ chk S.l2 ^^^ chk S.l3)) := hI.val 19 (by omega) hd.2
          refine wpOp_step rfl (fun K hK => ?_)
          go_simp
          exact hK _ _ (hI.step 20 (by omega) (Below.refl _ _) rfl)
        · intro listed a w hd hI
          simp [waited, Region.binds] at hd
          have e20 : a.tmps[75]?.getD undef = .bool true := hI.val 20 (by omega) hd.1
          refine wpOp_step rfl (fun K hK => ?_)
          go_simp
          exact hK _ _ (hI.step 21 (by omega) (Below.refl _ _) rfl)
        refine Steps.one ?_ (Steps.one ?_ (Steps.one ?_ (Steps.one ?_ (Steps.one ?_ (Steps.one ?_ Steps.none)))))
        · intro listed a w hd hI
          simp [waited, Region.binds] at hd
          have eg := hI.sure hd
          refine wpOp_step rfl (fun K hK => ?_)
          go_simp
          exact hK _ _ (hI.step 22 (by omega) ((Below.refl _ _).alloc (Nat.le_refl _) _) ⟨_, rfl, heap_alloc_new _ _⟩)
        · intro listed a w hd hI
          simp [waited, Region.binds] at hd
          have eg := hI.sure hd.2
          obtain ⟨g, e, hg⟩ : IsBlock _ _ (a.tmps[77]?.getD undef) w := hI.val 22 (by omega) hd.1
          refine wpOp_step rfl (fun K hK => ?_)
          go_simp
          exact hK _ _ (hI.step 23 (by omega) ((Below.refl _ _).alloc (Nat.le_refl _) _) ⟨_, g, rfl, heap_alloc_new _ _, (Below.heap_alloc _ _ _ (block_of hg)).trans hg⟩)
        · intro listed a w hd hI
          simp [waited, Region.binds] at hd
          have eg := hI.sure (by first | exact hd.2 | exact hd.2.2 | exact hd.2.1)
          obtain ⟨g, g', e, hg, hg'⟩ : IsOuter (a.tmps[78]?.getD undef) w := hI.val 23 (by omega) hd.1
          refine wpOp_step rfl (fun K hK => ?_)
          go_simp
          refine (check_block (q := ⟨some ⟨g', 0, none⟩, 1, 1, [97]⟩) hg (part_at hg')).mono ?_
          rintro e1 w1 ⟨rfl, hb⟩
          exact hK _ _ (hI.step 24 (by omega) hb (congrArg (Value.int .u32) num_a))
        · intro listed a w hd hI
          simp [waited, Region.binds] at hd
          have eg := hI.sure (by first | exact hd.2 | exact hd.2.2 | exact hd.2.1)
          have e : a.tmps[79]?.getD undef = .int .u32 3904355907 := hI.val 24 (by omega) hd.1
          refine wpOp_step rfl (fun K hK => ?_)
          go_simp
          exact hK _ _ (hI.step 25 (by omega) (Below.refl _ _) rfl)
        · intro listed a w hd hI
          simp [waited, Region.binds] at hd
          have e21 : a.tmps[76]?.getD undef = .bool true := hI.val 21 (by omega) hd.1
          have e25 : a.tmps[80]?.getD undef = .bool true := hI.val 25 (by omega) (by first | exact hd.2 | exact hd.2.1)
          refine wpOp_step rfl (fun K hK => ?_)
          go_simp
          exact hK _ _ (hI.step 26 (by omega) (Below.refl _ _) rfl)
        · intro listed a w hd hI
          simp [waited, Region.binds] at hd
          have e26 : a.tmps[81]?.getD undef = .bool true := hI.val 26 (by omega) hd.1
          refine wpOp_step rfl (fun K hK => ?_)
          go_simp
          exact hK _ _ (hI.step 27 (by omega) (Below.refl _ _) rfl)
      · intro listed a w' hall hI
        have e6 : a.tmps[6]?.getD undef = .bool true := hI.val 27 (by omega) (by simpa using hall 27 (by decide))
        go_wp2_with fail
        exact bodyPost_ret (v := .bool true) (by simp [results, Try.results7, go_sem, e6]) hI.defers ⟨rfl, hb.trans (hI.below.mono hb.size)⟩

set_option maxRecDepth 100000 in
theorem aff_early (ao bo co : Option Addr) (n1 n2 n3 c1 c2 c3 : Nat) (w : World) (h : 2147483647 < n1 ∨ 2147483647 < n2 ∨ 2147483647 < n3) :
    Calls Try.prog 7 #[.slice ao n1 c1, .slice bo n2 c2, .slice co n3 c3] w fun e w' => e = .returned (.bool true) ∧ Below w.heap.size w w' := by
  by_cases h1 : 2147483647 < n1
  · clear h
    go_enter Try.func7, Try.ntmps7
    go_wp2_with fail
    go_ret
    exact ⟨rfl, Below.refl _ _⟩
  · by_cases h2 : 2147483647 < n2
    · clear h
      go_enter Try.func7, Try.ntmps7
      go_wp2_with fail
      go_ret
      exact ⟨rfl, Below.refl _ _⟩
    · have h3 : 2147483647 < n3 := by omega
      clear h
      go_enter Try.func7, Try.ntmps7
      go_wp2_with fail
      go_ret
      exact ⟨rfl, Below.refl _ _⟩

theorem law_affine (ao bo co : Option Addr) (n1 n2 n3 c1 c2 c3 : Nat) (l1 l2 l3 : List UInt8) (w : World)
    (h1 : l1.length = n1 ∧ n1 ≤ 9223372036854775807 ∧ n1 ≤ c1 ∧ Reads w ao l1 ∧ (ao = none → c1 = 0))
    (h2 : l2.length = n2 ∧ n2 ≤ 9223372036854775807 ∧ n2 ≤ c2 ∧ Reads w bo l2 ∧ (bo = none → c2 = 0))
    (h3 : l3.length = n3 ∧ n3 ≤ 9223372036854775807 ∧ n3 ≤ c3 ∧ Reads w co l3 ∧ (co = none → c3 = 0)) :
    Calls Try.prog 7 #[.slice ao n1 c1, .slice bo n2 c2, .slice co n3 c3] w fun e w' => e = .returned (.bool true) ∧ Below w.heap.size w w' := by
  by_cases h : 2147483647 < n1 ∨ 2147483647 < n2 ∨ 2147483647 < n3
  · exact aff_early ao bo co n1 n2 n3 c1 c2 c3 w h
  · exact aff_long ao bo co n1 n2 n3 c1 c2 c3 l1 l2 l3 w h1 h2 h3 (by omega) (by omega) (by omega)

end Go.Proofs.Ytccecngaimpejaa
