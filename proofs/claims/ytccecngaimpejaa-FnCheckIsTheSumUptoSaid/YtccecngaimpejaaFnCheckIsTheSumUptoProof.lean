/-
  PROVED: 'gzipfiles/laws.FnCheckIsTheSum' returns true, and its argument reads behind the call as it read before (the given statement Rows.FnCheckIsTheSumUptoSaid). CONDITION (the statement's own): what the argument reads as is of bulk at most 1048576.
  The frame follows the kit's UptoToy.lean; the argument is opened by open_int_rows.
-/
import Derived.Test.YtccecngaimpejaaLawSum
import Derived.Test.YtccecngaimpejaaRows
import Derived.WalkKit
import Derived.ProofKit
import Derived.OpenShut
import Derived.ChangeOld
import Derived.Below
import Derived.JoinedCond
import Derived.Deep.Matrix
namespace Go.Proofs.Ytccecngaimpejaa.fnCheckIsTheSum
open Go.ChangeShapes Go.WideShapes Go.ChangeAt Go.RowKit Go.Deep

theorem own : ownKnob Try.prog.godebug = none := by kernel_rfl
theorem laidOut : laidOutB Try.prog = true := by kernel_rfl
theorem cellsOuter : Try.prog.cellsOf 27 = 1 := by kernel_rfl
theorem cellsInner : Try.prog.cellsOf 5 = 1 := by kernel_rfl

/-- A row's bytes. -/
def bytesAt (zs : List Int) (len : Nat) : List UInt8 := (zs.take len).map fun z => UInt8.ofNat z.toNat

theorem bytesAt_length {zs : List Int} {len : Nat} (h : len ≤ zs.length) : (bytesAt zs len).length = len := by simp [bytesAt]; omega

theorem bytesAt_get {zs : List Int} {len i : Nat} (hl : len ≤ zs.length) (hi : i < len) (hw : ∀ n ∈ zs, (Lit.int .u8 n).wf = true) : bnum ((bytesAt zs len).getD i 0) = zs.getD i 0 := by
  have hin : i < zs.length := by omega
  have hg : zs.getD i 0 = zs[i] := by rw [List.getD_eq_getElem?_getD, List.getElem?_eq_getElem hin]; rfl
  have hx : 0 ≤ zs[i] ∧ zs[i] ≤ 255 := by simpa [Lit.wf, IntKind.min, IntKind.max, IntKind.signed, IntKind.bits] using hw zs[i] (List.getElem_mem hin)
  rw [hg]
  unfold bytesAt
  rw [List.getD_eq_getElem?_getD, List.getElem?_map, List.getElem?_take, if_pos hi, List.getElem?_eq_getElem hin]
  show bnum (UInt8.ofNat zs[i].toNat) = zs[i]
  unfold bnum
  rw [UInt8.toNat_ofNat']
  omega

/- What the bound gives. -/
theorem one_le {H : Type} (d : DataW H) : 1 ≤ Rows.uptoBulk d := by
  cases d with
  | lit l => cases l <;> simp [Rows.uptoBulk]
  | nil => simp [Rows.uptoBulk]
  | ptr d => simp [Rows.uptoBulk]
  | slice elems spare => simp [Rows.uptoBulk]
  | agg parts => simp [Rows.uptoBulk]
  | iface t d => simp [Rows.uptoBulk]
  | map entries => simp [Rows.uptoBulk]
  | held h => simp [Rows.uptoBulk]

theorem length_le {H : Type} (l : List (DataW H)) : l.length ≤ Rows.uptoBulkAll l := by
  induction l with
  | nil => simp [Rows.uptoBulkAll]
  | cons x r ih => have := one_le x; simp only [Rows.uptoBulkAll, List.length_cons]; omega

theorem row_le {H : Type} (A : Option Addr) (L : Nat) (zs : List Int) (hL : L ≤ zs.length) (hn : A = none → L = 0) : L ≤ Rows.uptoBulk (intRow (H := H) .u8 A L zs) := by
  cases A with
  | none => rw [hn rfl]; exact Nat.zero_le _
  | some a =>
    simp only [intRow, Rows.uptoBulk]
    have := length_le (lits (H := H) .u8 (zs.take L))
    simp only [lits, List.length_map, List.length_take] at this
    simp only [lits]
    omega

theorem rows_le {H : Type} (A : Nat → Option Addr) (L : Nat → Nat) (Z : Nat → List Int) (rs : List Nat) (hL : ∀ r ∈ rs, L r ≤ (Z r).length) (hn : ∀ r ∈ rs, A r = none → L r = 0) (C : Nat → Nat) :
    (bytesOf (rs.map fun r => (⟨A r, L r, C r, bytesAt (Z r) (L r)⟩ : Part))).length ≤ Rows.uptoBulkAll (rs.map fun r => intRow (H := H) .u8 (A r) (L r) (Z r)) := by
  induction rs with
  | nil => simp [bytesOf]
  | cons r rs ih =>
    have h1 := ih (fun x hx => hL x (List.mem_cons_of_mem _ hx)) (fun x hx => hn x (List.mem_cons_of_mem _ hx))
    have h2 := row_le (H := H) (A r) (L r) (Z r) (hL r List.mem_cons_self) (hn r List.mem_cons_self)
    have h3 := bytesAt_length (hL r List.mem_cons_self)
    have e : bytesOf ((r :: rs).map fun r => (⟨A r, L r, C r, bytesAt (Z r) (L r)⟩ : Part)) = bytesAt (Z r) (L r) ++ bytesOf (rs.map fun r => (⟨A r, L r, C r, bytesAt (Z r) (L r)⟩ : Part)) := by simp [bytesOf]
    rw [e, List.length_append, h3]
    simp only [List.map_cons, Rows.uptoBulkAll]
    omega

theorem bound {H : Type} {l : List (DataW H)} (hk : Rows.uptoSmall H l = true) : Rows.uptoBulkAll l ≤ 1048576 := of_decide_eq_true hk

theorem contract (H : Type) (enc : TypeId × Value → H) (W : World) (base : Nat) (args : Array Value) (ds gs : List (DataW H)) (before : List MemPlace)
    (hval : ∀ (j : Nat) t v, Try.f8.params[j]? = some t → args[j]? = some v → Value.okWide Try.prog W .any base t v)
    (hW : DataW.Whole enc Try.prog Try.f8.params.toList Rows.fnCheckIsTheSumSpec.vars false W args.toList ds gs before) (hk : Rows.uptoSmall H (ds ++ gs) = true) :
    Calls Try.prog 8 args W fun e W' => ∃ v, e = .returned v ∧ Rows.fnCheckIsTheSumSpec.post enc Try.prog Try.f8 false true false false W args v W' := by
  have hW' := hW
  obtain ⟨p, q, hA0, hV, rfl, hfz, hnd⟩ := hW
  have hA : DataW.TrodAll enc Try.prog W 0 (fun _ => true) true Try.f8.params.toList args.toList ds p := hA0
  rw [Try.params8] at hA hval
  obtain ⟨v0, vs0, d0, ds0, p0, q0, hargs, rfl, rfl, h0, r0⟩ := trodAll_cons hA
  obtain ⟨rfl, rfl, rfl⟩ := trodAll_nil r0
  obtain rfl : args = #[v0] := by cases args; simp_all
  obtain ⟨rfl, rfl⟩ := trodVars_none hV
  obtain ⟨a0, len0, cap0, rfl⟩ := okWide_slice Try.underlying32 (hval 0 32 v0 rfl rfl)
  have k0 := h0
  have lt0 : ∀ x ∈ p0, x.block < W.heap.size := by obtain ⟨m, hm⟩ := k0; exact DataW.trod_lt m _ _ _ hm
  have hb := bound hk
  clear hk
  have hex : ∃ ps : List Part, ps.length = len0 ∧ len0 ≤ 1048576 ∧ ReadsParts W a0 ps ∧ (bytesOf ps).length ≤ 1048576 := by
    obtain ⟨fuel, hf⟩ := h0
    rcases open_int_rows Try.underlying32 Try.underlying27 Try.underlying5 cellsOuter cellsInner hf with ⟨hcs, hx⟩ | ⟨a, len', cap', A, L, C, Z, hcs, _, hl, hm, hx, hrows⟩
    · simp [Value.cells] at hcs
      obtain ⟨rfl, rfl, rfl⟩ := hcs
      exact ⟨[], rfl, by omega, ⟨(fun q hq => by cases hq), Or.inl rfl⟩, by simp [bytesOf]⟩
    · simp [Value.cells] at hcs
      obtain ⟨rfl, rfl, rfl⟩ := hcs
      simp only [Prod.mk.injEq] at hx
      obtain ⟨rfl, _⟩ := hx
      have hR : ∀ r ∈ List.range len0, L r ≤ (Z r).length := fun r hr => by
        obtain ⟨_, h1, _, h2, _⟩ := hrows r (by have := List.mem_range.1 hr; omega)
        omega
      have hN : ∀ r ∈ List.range len0, A r = none → L r = 0 := fun r hr hn => by
        obtain ⟨_, h1, _, _, _, h2, _⟩ := hrows r (by have := List.mem_range.1 hr; omega)
        have := h2 hn; omega
      have hsum := rows_le (H := H) A L Z (List.range len0) hR hN C
      simp only [List.append_nil, Rows.uptoBulkAll, Rows.uptoBulk] at hb
      have hlen := length_le ((List.range len0).map fun r => intRow (H := H) .u8 (A r) (L r) (Z r))
      simp only [List.length_map, List.length_range] at hlen
      refine ⟨_, by rw [List.length_map, List.length_range], by omega, ⟨fun q hq => ?_, ?_⟩, Nat.le_trans hsum (by omega)⟩
      · obtain ⟨r, hr, rfl⟩ := List.mem_map.1 hq
        have hr' := List.mem_range.1 hr
        obtain ⟨_, h1, h2, h3, h4, h5, h6⟩ := hrows r (by omega)
        unfold maxLen at h2
        have hlr := hR r hr
        refine ⟨bytesAt_length hlr, show L r ≤ _ by omega, h1, ?_, h5⟩
        by_cases hz : L r = 0
        · exact Or.inl (by show bytesAt (Z r) (L r) = []; rw [hz]; rfl)
        · cases hA : A r with
          | none => exact absurd (hN r hr hA) hz
          | some a' =>
            obtain ⟨_, hc⟩ := h6 a' hA
            obtain ⟨b, off, spot⟩ := a'
            have hspot : spot = none := by simpa [Addr.add] using World.cell?_spot (hc 0 (by omega))
            subst hspot
            refine Or.inr ⟨b, off, rfl, fun i hi => ?_⟩
            have hi' : i < L r := by rw [bytesAt_length hlr] at hi; exact hi
            have hadd : (⟨b, off, none⟩ : Addr).add i = ⟨b, off + i, none⟩ := by unfold Addr.add; split <;> simp_all
            have := hc i (by omega)
            rw [hadd] at this
            rw [this, bytesAt_get hlr hi' h4]
      · by_cases hz : len0 = 0
        · subst hz; exact Or.inl rfl
        · obtain ⟨b, off, spot⟩ := a
          have hspot : spot = none := by simpa [Addr.add] using World.cell?_spot (hrows 0 (by omega)).1
          subst hspot
          have hadd : ∀ i, (⟨b, off, none⟩ : Addr).add i = ⟨b, off + i, none⟩ := fun i => by unfold Addr.add; split <;> simp_all
          refine Or.inr ⟨b, off, rfl, ?_, fun i q hq => ?_⟩
          · exact block_lt_of_cell (hrows 0 (by omega)).1
          · rw [List.getElem?_map] at hq
            have hi : i < len0 := by
              rcases Nat.lt_or_ge i len0 with h | h
              · exact h
              · rw [List.getElem?_eq_none (by rw [List.length_range]; exact h)] at hq; cases hq
            rw [List.getElem?_range hi] at hq
            obtain rfl := Option.some.inj hq
            have := (hrows i (by omega)).1
            rw [hadd] at this
            exact this
  obtain ⟨ps, hn, hl, hr, hs⟩ := hex
  clear hA0
  refine (law_sum a0 len0 cap0 ps W hn hl hr hs).mono fun e W' ⟨he, bel⟩ => ?_
  subst he
  exact ⟨_, rfl, _, _, _, [], _, [], hW', trodAll_mk1 (shut_bool Try.underlying4 _), (trodAll_cons_mk (Below.trod laidOut (by kernel_rfl) (of_decide_eq_true (by kernel_rfl)) k0 bel lt0) trodAll_mk0), rfl, bel.frame _, fun h => by cases h⟩

set_option maxRecDepth 100000 in
theorem lifted (os : Os) (started : os.Started) (H : Type) (enc : TypeId × Value → H) (F : Stop.Interp) :
    ReturnsInHanded {} Try.checked os 8 .any ((Rows.OpenSpec.upto Rows.fnCheckIsTheSumSpec).pre6 enc Try.prog Try.f8 Rows.fnCheckIsTheSumUptoRow.domain false) (((Rows.OpenSpec.upto Rows.fnCheckIsTheSumSpec).at F).post enc Try.prog Try.f8 false true false false) := by
  refine returnsInHanded_of_cond (C := Try.checked) (s := Rows.OpenSpec.upto Rows.fnCheckIsTheSumSpec) (k := Rows.uptoSmall) rfl own started (by kernel_rfl) Try.func8
    (OpenSpec.witness (enc := enc) (C := Try.checked) (s := Rows.OpenSpec.upto Rows.fnCheckIsTheSumSpec) (k := Rows.uptoSmall) rfl false ⟨#[], #[.slice none 0 0], []⟩ 8 (by kernel_rfl) (by kernel_rfl) (by kernel_rfl)
      (x := ([.nil], [], [])) (by kernel_rfl) rfl (by kernel_rfl)) ?_
  intro W base args ds gs before hval hW _ hk _
  exact contract H enc W base args ds gs before hval hW hk

theorem over : Rows.fnCheckIsTheSumUptoRow.holds Try.pinned (Rows.OpenSpec.upto Rows.fnCheckIsTheSumSpec) :=
  OpenClaim.holds_of_cond 8 Try.f8 rfl rfl rfl rfl rfl rfl rfl ⟨rfl, rfl, rfl, rfl, rfl⟩ rfl rfl rfl rfl rfl (by kernel_rfl) Try.func8 (by kernel_rfl)
    (of_decide_eq_true (by kernel_rfl)) (by unfold Func.isWrapper; first | (rw [if_pos (by decide +kernel)]; kernel_rfl) | (rw [if_neg (by decide +kernel)]; exact ⟨rfl, rfl⟩))
    (fun os started H enc _ F => lifted os started H enc F)

theorem proved : Rows.FnCheckIsTheSumUptoSaid :=
  over
#print axioms proved
end Go.Proofs.Ytccecngaimpejaa.fnCheckIsTheSum
