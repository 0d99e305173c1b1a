/-
  For every number the law FnOps returns true and its argument reads afterwards as it read before: the list of operations of the thin package has as many elements as the reference's list, and each has the same name, form and size.
  Conditions: none; every int is spoken of.
-/
import Derived.Test.YtlmbaikdbhleiaaOps
import Derived.WalkKit
import Derived.ProofKit
import Derived.OpenShut
import Derived.Deep.QuietTactic
import Derived.BigQuiet
namespace Go.Proofs.Ytlmbaikdbhleiaa.fnOps
open Go.ChangeShapes Go.WideShapes Go.ChangeAt Go.RowKit
open Table

theorem own : ownKnob Try.prog.godebug = none := by kernel_rfl

/-- What the first list's block holds. -/
noncomputable def implCells : Array Value := (implRows.flatMap cells3).toArray
/-- What the second list's block holds. -/
noncomputable def specCells : Array Value := (specRows.flatMap cells5).toArray

theorem impl_call (w : World) : Calls Try.prog 4 #[] w fun e w' => e = .returned (.slice (some ⟨w.heap.size, 0, none⟩) 203 203) ∧ w' = w.alloc (.cells implCells 27) := impl_ops w
theorem spec_call (w : World) : Calls Try.prog 5 #[] w fun e w' => e = .returned (.slice (some ⟨w.heap.size, 0, none⟩) 203 203) ∧ w' = w.alloc (.cells specCells 29) := spec_ops w

/-! ### The plain law: at each place the two blocks hold the same name, form and size -/
theorem impl_at (i j : Nat) (hi : i < implRows.length) (hj : j < 3) : implCells[i * 3 + j]? = (cells3 implRows[i])[j]? := by
  unfold implCells
  rw [List.getElem?_toArray]
  exact flat_at cells3 (fun _ => rfl) implRows i j hi hj
theorem spec_at (i j : Nat) (hi : i < specRows.length) (hj : j < 5) : specCells[i * 5 + j]? = (cells5 specRows[i])[j]? := by
  unfold specCells
  rw [List.getElem?_toArray]
  exact flat_at cells5 (fun _ => rfl) specRows i j hi hj
theorem impl_row (i : Nat) (hi : i < implRows.length) (hs : i < specRows.length) : implRows[i] = short specRows[i] := by
  have h : implRows[i]? = (specRows.map short)[i]? := by rw [← rows_agree]
  rw [List.getElem?_map, List.getElem?_eq_getElem hi, List.getElem?_eq_getElem hs] at h
  exact Option.some.inj h
theorem same_rows (i : Nat) (h : i < 203) : ∃ (s : ByteArray) (f z : Int),
    implCells[i * 3]? = some (.string s) ∧ implCells[i * 3 + 1]? = some (.int .i64 f) ∧ implCells[i * 3 + 2]? = some (.int .i64 z) ∧
    specCells[i * 5]? = some (.string s) ∧ specCells[i * 5 + 1]? = some (.int .i64 f) ∧ specCells[i * 5 + 2]? = some (.int .i64 z) := by
  have hi : i < implRows.length := by rw [implRows_length]; exact h
  have hs : i < specRows.length := by rw [specRows_length]; exact h
  have e := impl_row i hi hs
  refine ⟨specRows[i].1, specRows[i].2.1, specRows[i].2.2.1, ?_, ?_, ?_, ?_, ?_, ?_⟩
  · exact (impl_at i 0 hi (by decide)).trans (congrArg (fun r => (cells3 r)[0]?) e)
  · exact (impl_at i 1 hi (by decide)).trans (congrArg (fun r => (cells3 r)[1]?) e)
  · exact (impl_at i 2 hi (by decide)).trans (congrArg (fun r => (cells3 r)[2]?) e)
  · exact (spec_at i 0 hs (by decide)).trans rfl
  · exact (spec_at i 1 hs (by decide)).trans rfl
  · exact (spec_at i 2 hs (by decide)).trans rfl

/-! ### The walk: below the lists, above them, within them -/
set_option maxHeartbeats 400000 in
theorem below_true (a0 : Int) (w : World) (h : a0 < 0) :
    Calls Try.prog 3 #[.int .i64 a0] w fun e w' => e = .returned (.bool true) ∧ Grown w w' := by
  go_enter Try.func3, Try.ntmps3
  go_wp2_with (first
    | (go_at_call 4; refine (impl_call _).mono ?_; rintro e w' ⟨rfl, rfl⟩)
    | (go_at_call 5; refine (spec_call _).mono ?_; rintro e w' ⟨rfl, rfl⟩))
  go_ret
  exact ⟨rfl, by repeat (first | exact Grown.refl _ | apply Grown.drew | apply Grown.alloc)⟩

set_option maxHeartbeats 400000 in
theorem above_true (a0 : Int) (w : World) (h0 : 0 ≤ a0) (h : 203 ≤ a0) :
    Calls Try.prog 3 #[.int .i64 a0] w fun e w' => e = .returned (.bool true) ∧ Grown w w' := by
  go_enter Try.func3, Try.ntmps3
  go_wp2_with (first
    | (go_at_call 4; refine (impl_call _).mono ?_; rintro e w' ⟨rfl, rfl⟩)
    | (go_at_call 5; refine (spec_call _).mono ?_; rintro e w' ⟨rfl, rfl⟩))
  go_ret
  exact ⟨rfl, by repeat (first | exact Grown.refl _ | apply Grown.drew | apply Grown.alloc)⟩

set_option maxRecDepth 100000 in
set_option maxHeartbeats 400000 in
theorem within_true (i : Nat) (w : World) (h : i < 203) (s : ByteArray) (f z : Int)
    (hi0 : implCells[i * 3]? = some (.string s)) (hi1 : implCells[i * 3 + 1]? = some (.int .i64 f)) (hi2 : implCells[i * 3 + 2]? = some (.int .i64 z))
    (hs0 : specCells[i * 5]? = some (.string s)) (hs1 : specCells[i * 5 + 1]? = some (.int .i64 f)) (hs2 : specCells[i * 5 + 2]? = some (.int .i64 z)) :
    Calls Try.prog 3 #[.int .i64 i] w fun e w' => e = .returned (.bool true) ∧ Grown w w' := by
  have h0 : (0 : Int) ≤ i := by omega
  have h1 : (i : Int) < 203 := by omega
  go_enter Try.func3, Try.ntmps3
  go_wp2_with (first
    | (go_at_call 4; refine (impl_call _).mono ?_; rintro e w' ⟨rfl, rfl⟩)
    | (go_at_call 5; refine (spec_call _).mono ?_; rintro e w' ⟨rfl, rfl⟩))
  go_quiet (fail)
  go_wp2
  go_ret
  exact ⟨rfl, by repeat (first | exact Grown.refl _ | apply Grown.drew | apply Grown.alloc)⟩

/-- The Go text returns true, whatever the number. -/
theorem walk (a0 : Int) (w : World) :
    Calls Try.prog 3 #[.int .i64 a0] w fun e w' => e = .returned (.bool true) ∧ Grown w w' := by
  by_cases hb : a0 < 0
  · exact below_true a0 w hb
  · by_cases ha : 203 ≤ a0
    · exact above_true a0 w (by omega) ha
    · obtain ⟨i, rfl⟩ : ∃ i : Nat, a0 = i := ⟨a0.toNat, by omega⟩
      have hi : i < 203 := by omega
      obtain ⟨s, f, z, h1, h2, h3, h4, h5, h6⟩ := same_rows i hi
      exact within_true i w hi s f z h1 h2 h3 h4 h5 h6

/-! ### The row: as the template of the kit lays it -/
set_option maxRecDepth 100000 in
theorem lifted (os : Os) (started : os.Started) (H : Type) (enc : TypeId × Value → H) :
    ReturnsInHanded {} Try.checked os 3 .any (Rows.fnOpsSpec.pre6 enc Try.prog Try.f3 Rows.fnOpsRow.domain false) (Rows.fnOpsSpec.post enc Try.prog Try.f3 false true false false) := by
  refine returnsInHanded_of_change (C := Try.checked) own started (by kernel_rfl) Try.func3
    (ChangeSpec.witness6 (enc := enc) (C := Try.checked) false ⟨#[], #[.int .i64 0], []⟩ 8 (by kernel_rfl) (by kernel_rfl) (by kernel_rfl) (by kernel_rfl)) ?_
  intro W base args ds gs before hval0 hW hcnd _
  have hval : ∀ (j : Nat) t v, Try.f3.params[j]? = some t → args[j]? = some v → Value.okWide Try.prog W .any base t v := hval0
  have hW' := hW
  obtain ⟨p, q, hA0, hV, rfl, hfz, hnd⟩ := hW
  have hA : DataW.TrodAll enc Try.prog W 0 (fun _ => true) true Try.f3.params.toList args.toList ds p := hA0
  rw [Try.params3] at hA hval
  obtain ⟨v0, vs0, d0, ds0, p0, q0, hargs, rfl, rfl, h0, r0⟩ := trodAll_cons hA
  obtain ⟨rfl, rfl, rfl⟩ := trodAll_nil r0
  obtain rfl : args = #[v0] := by cases args; simp_all
  obtain ⟨rfl, rfl⟩ := trodVars_none hV
  obtain ⟨a0, rfl, rfl, rfl, w0⟩ := open_int Try.underlying3 (hval 0 3 v0 rfl rfl) h0
  clear hA0 hval0
  simp only [List.append_nil] at hW'
  refine (walk a0 W).mono fun e W' ⟨he, hg⟩ => ?_
  subst he
  exact ⟨_, rfl, post_of_same (pa := []) (pv := []) hW' (fun _ _ _ => (trodAll_cons_mk (shut_bool Try.underlying4 _) trodAll_mk0)) (fun sp _ => (trodAll_cons_mk (shut_int Try.underlying3 w0) trodAll_mk0)) (fun _ _ => rfl) rfl
    (hg.frame _) hg.2.1 (ok_one (by kernel_rfl) rfl (okWide_bool_mk Try.underlying4 _))⟩

theorem over : Rows.fnOpsRow.holds Try.pinned (OpenSpec.ofChange Rows.fnOpsSpec) :=
  OpenClaim.holds_of_wide 3 Try.f3 rfl rfl rfl rfl rfl rfl rfl ⟨rfl, rfl, rfl, rfl, rfl⟩ rfl rfl rfl rfl rfl (by kernel_rfl) Try.func3 (by kernel_rfl)
    (of_decide_eq_true (by kernel_rfl)) (by unfold Func.isWrapper; first | (rw [if_pos (by decide +kernel)]; kernel_rfl) | (rw [if_neg (by decide +kernel)]; exact ⟨rfl, rfl⟩))
    (fun os started H enc _ => lifted os started H enc)

/-- The given statement. -/
theorem proved : Rows.FnOpsSaid :=
  over
#print axioms proved
end Go.Proofs.Ytlmbaikdbhleiaa.fnOps
