/- Bytes appended to a slice of the call's own: one law for every source, nil and empty ones too. -/
import Derived.Test.YtccecngaimpejaaDoorOpen
import Derived.Laws.AppendOwnNone
namespace Go.Proofs.YtccecngaimpejaaDoor
open Go.RowKit Go.Lib
open Crc (W)

theorem info_u8 : (Tryd.prog.info? 5).map (fun i => (i.zero, i.size, i.bytes)) = some (some (.int .u8 0), 1, 1) := by kernel_rfl

/-- Bytes as cells. -/
def vals (l : List UInt8) : List Value := l.map fun b => .int .u8 (bnum b)
theorem vals_length (l : List UInt8) : (vals l).length = l.length := by simp [vals]
theorem vals_get (l : List UInt8) (i : Nat) (hi : i < l.length) : (vals l)[i]? = some (.int .u8 (bnum (l.getD i 0))) := by
  unfold vals
  rw [List.getElem?_map, List.getD_eq_getElem?_getD, List.getElem?_eq_getElem hi]; rfl
theorem vals_append (l m : List UInt8) : vals l ++ vals m = vals (l ++ m) := by simp [vals]

theorem bnum_xor (x y : UInt8) : bits .xor .u8 (bnum x) (bnum y) = bnum (x ^^^ y) := by
  unfold bnum
  rw [u8_xor_nat _ _ x.toNat_lt y.toNat_lt, UInt8.toNat_xor]
theorem vals_set (l : List UInt8) (k : Nat) (z : UInt8) : (vals l).set k (.int .u8 (bnum z)) = vals (l.set k z) := by
  unfold vals; rw [List.map_set]

theorem wpList_append_bytes {w : World} {ops : Array Oper} {rest : List Oper} {o : Oper} {a : Act} {Q : Exit → Act → World → Prop} (hgd : o.guard = none) (s x : Operand)
    (ho : o.op = .call { callee := .builtin .append, args := #[s, x], argTypes := #[22, 22] })
    (base : Nat) (v : Value) (n : Nat) (xs : List UInt8) (hs : a.eval s = v) (hown : w.ownsRow base 5 1 v n (vals xs))
    (ao : Option Addr) (m c : Nat) (l : List UInt8) (hx : a.eval x = .slice ao m c) (hl : l.length = m) (hr : Reads w ao l) (hnil : ao = none → c = 0)
    (hfit : n + m ≤ 140737488355328) (hbase : base ≤ w.heap.size)
    (h : ∀ v' w', w'.ownsRow base 5 1 v' (n + m) (vals (xs ++ l)) → w.grownBy w' v.ownBlock → wpList Tryd.prog ops Q rest (a.put o.dst v') w') : wpList Tryd.prog ops Q (o :: rest) a w := by
  obtain ⟨i0, hi, hz0, hz1, hz2⟩ := info_parts info_u8
  cases ao with
  | none =>
    have hl0 : l = [] := by
      rcases hr with hr | ⟨b, off, he, _⟩
      · exact hr
      · cases he
    subst hl0
    have hm : m = 0 := by simpa using hl.symm
    subst hm
    rw [hnil rfl] at hx
    refine wpList_append_own_none hgd s x _ ho base 5 i0 1 Tryd.underlying22 hi v n (vals xs) hs hown hx ?_
    refine h v w ?_ ⟨rfl, rfl, rfl, Nat.le_refl _, fun _ _ _ => rfl⟩
    simpa using hown
  | some ad =>
    refine wpList_append_own w hgd s x _ ho base 5 i0 (.int .u8 0) 1 1 Tryd.underlying22 hi hz0 hz1 hz2 rfl (by decide) v n (vals xs) hs hown ad m c (vals l) hx
      (by rw [vals_length, hl, Nat.mul_one]) ?_ ?_ (by unfold maxLen; omega) (by omega) hbase (fun v' w' h1 h2 _ => h v' w' (by rw [← vals_append]; exact h1) h2)
    · intro j u hj
      have hlt : j < l.length := by
        rcases Nat.lt_or_ge j l.length with h | h
        · exact h
        · rw [List.getElem?_eq_none (by rw [vals_length]; exact h)] at hj; cases hj
      rw [vals_get l j hlt] at hj
      obtain rfl := Option.some.inj hj
      rcases hr with hr | ⟨b, off, he, hc⟩
      · rw [hr] at hlt; simp at hlt
      · obtain rfl := Option.some.inj he
        have hadd : (⟨b, off, none⟩ : Addr).add j = ⟨b, off + j, none⟩ := by unfold Addr.add; split <;> simp_all
        rw [hadd]; exact hc j hlt
    · intro u hu
      simp only [vals, List.mem_map] at hu
      obtain ⟨b, _, rfl⟩ := hu
      rfl

/-- An owned row of bytes, as a slice that is read. -/
theorem owns_reads {w : World} {base : Nat} {v : Value} {n : Nat} {l : List UInt8} (h : w.ownsRow base 5 1 v n (vals l)) :
    ∃ ao cap, v = .slice ao n cap ∧ l.length = n ∧ Reads w ao l ∧ n ≤ cap ∧ (ao = none → cap = 0) ∧ (∀ a, ao = some a → base ≤ a.block ∧ a.block < w.heap.size) := by
  obtain ⟨hlen, h | ⟨g, cap, cur, hv, hg, hh, hn, _, hsz, htk⟩⟩ := h
  · obtain ⟨rfl, rfl⟩ := h
    rw [vals_length] at hlen
    have hl0 : l = [] := List.length_eq_zero_iff.1 (by omega)
    exact ⟨none, 0, rfl, by omega, Or.inl hl0, by omega, fun _ => rfl, fun a ha => by cases ha⟩
  · rw [vals_length] at hlen
    refine ⟨some ⟨g, 0, none⟩, cap, hv, by omega, Or.inr ⟨g, 0, rfl, fun i hi => ?_⟩, hn, (fun ha => by cases ha), fun a ha => ?_⟩
    · rw [cell_of_row w g _ cur _ (0, 0) hh, ← vals_get l i hi, ← htk, List.getElem?_take, if_pos (by omega)]
      simp
    · obtain rfl := Option.some.inj ha
      refine ⟨hg, ?_⟩
      rcases Nat.lt_or_ge g w.heap.size with h | h
      · exact h
      · rw [Array.getElem?_eq_none h] at hh; cases hh

end Go.Proofs.YtccecngaimpejaaDoor
