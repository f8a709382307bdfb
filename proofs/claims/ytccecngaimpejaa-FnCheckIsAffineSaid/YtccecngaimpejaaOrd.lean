/- A region that draws its order, walked by one invariant: each operation is shown once, whatever came ahead of it. Nothing of the program stands here. -/
import Derived.RegionTactic
import Derived.WalkKit
namespace Go.Proofs.Ytccecngaimpejaa
open Go

/-- All that an operation waits for has been carried out. -/
def waited (ops : Array Oper) (i : Nat) (listed : Array Bool) : Bool :=
  ((ops[i]?).map (·.after.all fun e => !Region.binds .any e || listed.getD e.on false)).getD false

theorem filter_lt {p q : Nat → Bool} : ∀ (l : List Nat) (i : Nat), (∀ j, q j = true → p j = true) → i ∈ l → p i = true → q i = false → (l.filter q).length < (l.filter p).length := by
  intro l
  induction l with
  | nil => intro i _ h; cases h
  | cons x r ih =>
    intro i hpq hi hp hq
    have hle : ∀ r : List Nat, (r.filter q).length ≤ (r.filter p).length := by
      intro r
      induction r with
      | nil => exact Nat.le_refl _
      | cons y r ihr =>
        by_cases hy : q y = true
        · rw [List.filter_cons_of_pos hy, List.filter_cons_of_pos (hpq y hy)]; simp only [List.length_cons]; omega
        · rw [List.filter_cons_of_neg hy]
          by_cases hy2 : p y = true
          · rw [List.filter_cons_of_pos hy2]; simp only [List.length_cons]; omega
          · rw [List.filter_cons_of_neg hy2]; exact ihr
    rcases List.mem_cons.1 hi with rfl | hi
    · rw [List.filter_cons_of_pos hp, List.filter_cons_of_neg (by rw [hq]; simp)]
      have := hle r
      simp only [List.length_cons]; omega
    · have := ih i hpq hi hp hq
      by_cases hy : q x = true
      · rw [List.filter_cons_of_pos hy, List.filter_cons_of_pos (hpq x hy)]; simp only [List.length_cons]; omega
      · rw [List.filter_cons_of_neg hy]
        by_cases hy2 : p x = true
        · rw [List.filter_cons_of_pos hy2]; simp only [List.length_cons]; omega
        · rw [List.filter_cons_of_neg hy2]; exact this

/-- How many operations are still to come. -/
def left (ops : Array Oper) (listed : Array Bool) : Nat := ((List.range ops.size).filter fun i => !listed.getD i true).length

theorem ready_mem {ops : Array Oper} {listed : Array Bool} {i : Nat} (h : i ∈ Region.ready .any ops listed) : i < ops.size ∧ listed.getD i true = false ∧ waited ops i listed = true := by
  unfold Region.ready at h
  rw [List.mem_filter] at h
  obtain ⟨h1, h2⟩ := h
  rw [Bool.and_eq_true] at h2
  exact ⟨List.mem_range.1 h1, by simpa using h2.1, h2.2⟩

/-- Each of the operations is shown, whatever came ahead of it. -/
def Steps (P : Program) (ops : Array Oper) (Q : Exit → Act → World → Prop) (I : Array Bool → Act → World → Prop) (l : List Nat) : Prop :=
  ∀ i ∈ l, ∀ listed a w, waited ops i listed = true → I listed a w → wpOp P ops Q i (I (listed.setIfInBounds i true)) a w

theorem Steps.none {P : Program} {ops : Array Oper} {Q : Exit → Act → World → Prop} {I : Array Bool → Act → World → Prop} : Steps P ops Q I [] := fun _ h => by cases h
theorem Steps.one {P : Program} {ops : Array Oper} {Q : Exit → Act → World → Prop} {I : Array Bool → Act → World → Prop} {i : Nat} {l : List Nat}
    (h : ∀ listed a w, waited ops i listed = true → I listed a w → wpOp P ops Q i (I (listed.setIfInBounds i true)) a w) (hs : Steps P ops Q I l) : Steps P ops Q I (i :: l) := by
  intro j hj
  rcases List.mem_cons.1 hj with rfl | hj
  · exact h
  · exact hs j hj

/-- Every operation waits for earlier ones alone. -/
def forward (ops : Array Oper) : Bool := (List.range ops.size).all fun i => ((ops[i]?).map (·.after.all fun e => decide (e.on < i))).getD false

theorem all_listed {ops : Array Oper} {listed : Array Bool} (hf : forward ops = true) (hs : listed.size = ops.size) (hr : Region.ready .any ops listed = []) : ∀ i, i < ops.size → listed.getD i false = true := by
  intro i
  induction i using Nat.strongRecOn with
  | ind i ih =>
    intro hi
    have hg : ∀ j, j < ops.size → listed.getD j true = listed.getD j false := fun j hj => by
      simp [Array.getD_eq_getD_getElem?, Array.getElem?_eq_getElem (show j < listed.size by omega)]
    cases hl : listed.getD i false with
    | true => rfl
    | false =>
      exfalso
      have hin : i ∈ Region.ready .any ops listed := by
        unfold Region.ready
        rw [List.mem_filter]
        refine ⟨List.mem_range.2 hi, ?_⟩
        rw [Bool.and_eq_true]
        refine ⟨by rw [hg i hi, hl]; rfl, ?_⟩
        have h1 := List.all_eq_true.1 hf i (List.mem_range.2 hi)
        cases ho : ops[i]? with
        | none => rw [ho] at h1; exact h1
        | some o =>
          rw [ho] at h1
          simp only [Option.map_some, Option.getD_some] at h1 ⊢
          rw [Array.all_eq_true_iff_forall_mem] at h1 ⊢
          intro e he
          have h2 := of_decide_eq_true (h1 e he)
          rw [ih e.on h2 (by omega)]; simp
      rw [hr] at hin
      cases hin

theorem wpAny_by {P : Program} {ops : Array Oper} {Q : Exit → Act → World → Prop} (I : Array Bool → Act → World → Prop) (hf : forward ops = true)
    (hsize : ∀ listed a w, I listed a w → listed.size = ops.size) (hstep : Steps P ops Q I (List.range ops.size))
    (hend : ∀ listed a w, (∀ i, i < ops.size → listed.getD i false = true) → I listed a w → Q .normal a w) :
    ∀ fuel listed a w, left ops listed ≤ fuel → I listed a w → wpAny P .any ops Q fuel listed a w := by
  intro fuel
  induction fuel with
  | zero =>
    intro listed a w hc hI
    have hr : Region.ready .any ops listed = [] := by
      cases h : Region.ready .any ops listed with
      | nil => rfl
      | cons i r =>
        exfalso
        obtain ⟨h1, h2, _⟩ := ready_mem (show i ∈ Region.ready .any ops listed by rw [h]; exact List.mem_cons_self)
        have hmem : i ∈ (List.range ops.size).filter fun i => !listed.getD i true := List.mem_filter.2 ⟨List.mem_range.2 h1, by rw [h2]; rfl⟩
        have := List.length_pos_of_mem hmem
        unfold left at hc
        omega
    exact ⟨hr, hend listed a w (all_listed hf (hsize _ _ _ hI) hr) hI⟩
  | succ fuel ih =>
    intro listed a w hc hI
    refine ⟨fun hr => hend listed a w (all_listed hf (hsize _ _ _ hI) hr) hI, fun i hi => ?_⟩
    obtain ⟨h1, h2, h3⟩ := ready_mem hi
    refine wpOp_mono (fun a' w' h => ih _ a' w' ?_ h) (hstep i (List.mem_range.2 h1) listed a w h3 hI)
    have hlt : left ops (listed.setIfInBounds i true) < left ops listed := by
      refine filter_lt _ i (fun j hj => ?_) (List.mem_range.2 h1) (by rw [h2]; rfl) ?_
      · by_cases e : i = j
        · subst e; rw [h2]; rfl
        · simpa [Array.getD_eq_getD_getElem?, Array.getElem?_setIfInBounds_ne e] using hj
      · have hs := hsize _ _ _ hI
        simp [Array.getD_eq_getD_getElem?, Array.getElem?_setIfInBounds_self_of_lt (show i < listed.size by omega)]
    omega

theorem wp_region_by {P : Program} {ops : Array Oper} {Q : Exit → Act → World → Prop} {id : Nat} {a : Act} {w : World} (hm : P.follows .mixedOrders = true) (I : Array Bool → Act → World → Prop) (hf : forward ops = true)
    (hsize : ∀ listed a w, I listed a w → listed.size = ops.size) (hbegin : I (Array.replicate ops.size false) a w.drew) (hstep : Steps P ops Q I (List.range ops.size))
    (hend : ∀ listed a w, (∀ i, i < ops.size → listed.getD i false = true) → I listed a w → Q .normal a w) : (Code.region id ops true).wp P Q a w := by
  refine wp_region_any hm (wpAny_by I hf hsize hstep hend _ _ _ _ ?_ hbegin)
  unfold left
  exact Nat.le_trans (List.length_filter_le _ _) (by rw [List.length_range]; exact Nat.le_refl _)

end Go.Proofs.Ytccecngaimpejaa
