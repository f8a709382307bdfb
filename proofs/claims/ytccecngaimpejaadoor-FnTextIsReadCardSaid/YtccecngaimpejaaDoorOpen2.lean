/- The contracts of Clone, NewReader and kind. -/
import Derived.Test.YtccecngaimpejaaDoorRead
import Derived.Stop.IfaceNil
import Derived.Lib.LazyBuf
namespace Go.Proofs.YtccecngaimpejaaDoor
open Go.RowKit Go.Lib
open Crc (W)

/-- A slice with an address, held against nil. -/
theorem eql_some (a : Addr) (n c : Nat) (w : World) : (binOp .eql 22 (.slice (some a) n c) (.slice none 0 0)).run Tryd.prog w = .ok (.bool false) w := by
  exact Lib.run_eql_slice_nil (h := Tryd.underlying22) ..
theorem eql_none (w : World) : (binOp .eql 22 (.slice none 0 0) (.slice none 0 0)).run Tryd.prog w = .ok (.bool true) w := by
  exact Lib.run_eql_slice_nil (h := Tryd.underlying22) ..

/-- A copy of bytes in memory of the call's own. -/
def Cloned (n : Nat) (l : List UInt8) (w : World) (e : Ending) (w' : World) : Prop :=
  ∃ co cap, e = .returned (.slice co n cap) ∧ n ≤ cap ∧ Reads w' co l ∧ (co = none → cap = 0) ∧ (∀ a, co = some a → a.block < w'.heap.size) ∧ Below w.heap.size w w'

set_option maxRecDepth 100000 in
theorem clone_any (ao : Option Addr) (n cap : Nat) (l : List UInt8) (w : World) (hn : l.length = n) (hl : n ≤ 2147483647) (hr : Reads w ao l) (hnil : ao = none → cap = 0) :
    Calls Tryd.prog 8 #[.slice ao n cap] w (Cloned n l w) := by
  cases ao with
  | none =>
    obtain rfl := hnil rfl
    have hl0 : l = [] := by
      rcases hr with hr | ⟨b, off, he, _⟩
      · exact hr
      · cases he
    subst hl0
    obtain rfl : n = 0 := hn.symm
    have hq := eql_none
    go_enter Tryd.func8, Tryd.ntmps8
    go_wp2_with fail
    go_ret
    exact ⟨none, 0, rfl, Nat.le_refl _, Or.inl rfl, fun _ => rfl, (fun a h => by cases h), Below.refl _ _⟩
  | some a =>
    have hq := eql_some
    have HN := Lib.hid hn
    have HR := Lib.hid hr
    clear hn hr hnil
    go_enter Tryd.func8, Tryd.ntmps8
    go_wp2_with (at_builtin; refine wpList_append_bytes rfl (.tmp 5) (.tmp 6) rfl w.heap.size (.slice (some ⟨w.heap.size, 0, none⟩) 0 0) 0 [] rfl (World.ownsRow_made w #[] 0 (Nat.le_refl _) (Nat.zero_le _) rfl) (some a) n cap l rfl HN.out (HR.out.keep ((Below.refl _ _).alloc (Nat.le_refl _) _)) (fun h => by cases h) (by omega) (by simp) ?_)
    intro v1 w1 hown hgrow
    have hb : Below w.heap.size w w1 := ((Below.refl _ w).alloc (Nat.le_refl _) _).grown hgrow (by simp) (fun k hk => by cases hk; exact Nat.le_refl _)
    obtain ⟨co, cap', hv, hlen, hr', hcap', hnil', hblk⟩ := owns_reads hown
    rw [hv]
    have HP := Lib.hid (And.intro hcap' (And.intro hr' (And.intro hnil' (And.intro hblk hb))))
    clear hown hgrow hb hv hlen hr' hcap' hnil' hblk
    go_wp2_with fail
    go_ret
    exact ⟨co, cap', rfl, HP.out.1, HP.out.2.1, HP.out.2.2.1, fun a h => (HP.out.2.2.2.1 a h).2, HP.out.2.2.2.2⟩

theorem newReader_any (ao : Option Addr) (n cap : Nat) (w : World) :
    Calls Tryd.prog 7 #[.slice ao n cap] w fun e w' => e = .returned (.pointer (some ⟨w.heap.size, 0, none⟩)) ∧ w' = w.alloc (.cells #[.slice ao n cap, .int .i64 0, .int .i64 (-1)] 41) := by
  go_enter Tryd.func7, Tryd.ntmps7
  go_wp2_with fail
  go_ret
  exact ⟨rfl, rfl⟩

theorem kind_nil (w : World) :
    Calls Tryd.prog 11 #[.nilIface] w fun e w' => e = .returned (.int .i64 0) ∧ w = w' := by
  go_enter Tryd.func11, Tryd.ntmps11
  go_wp2_with fail
  go_ret
  exact ⟨rfl, rfl⟩

theorem isIface_error : Tryd.prog.isIface 33 = true := by kernel_rfl
theorem info_es : (Tryd.prog.info? 74).map (fun i => i.comparable) = some true := by kernel_rfl
theorem size_es (w : World) : (sizeOf 96).run Tryd.prog w = .ok 1 w := by kernel_rfl

theorem eql_same (a : Addr) (w : World) : (binOp .eql 33 (.iface 74 (.pointer (some a))) (.iface 74 (.pointer (some a)))).run Tryd.prog w = .ok (.bool true) w := by
  have h := info_es
  cases hi : Tryd.prog.info? 74 with
  | none => rw [hi] at h; cases h
  | some i =>
    rw [hi] at h
    exact run_eql_iface_same w 33 74 96 i 0 isIface_error (by simp [typeInfo, hi]) (by simpa using h) Tryd.underlying74 (size_es w) a

theorem kind_eof (eof : Addr) (w : World) (he : w.cell? ⟨0, 0, none⟩ = some (.iface 74 (.pointer (some eof)))) :
    Calls Tryd.prog 11 #[.iface 74 (.pointer (some eof))] w fun e w' => e = .returned (.int .i64 1) ∧ w = w' := by
  have hq := eql_same
  go_enter Tryd.func11, Tryd.ntmps11
  go_wp2_with fail
  go_ret
  exact ⟨rfl, rfl⟩

end Go.Proofs.YtccecngaimpejaaDoor
