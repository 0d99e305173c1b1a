/-
  The two functions that lay the lists of operations: each comes back with a slice of 203 elements over one new block, which holds the elements' cells side by side; nothing else has changed.
  Conditions: none.
-/
import Derived.Test.YtlmbaikdbhleiaaRows
import Derived.Test.YtlmbaikdbhleiaaTable
namespace Go.Proofs.Ytlmbaikdbhleiaa
open Go.Great Table

/-- The operations of the region that lays a literal, as the loaded program has them. -/
noncomputable def opsOf (f : Func) : List Oper :=
  match f.body with
  | some (.seq _ (.seq (.region _ ops _) _)) => ops.toList
  | _ => []
/-- The row that an operation of the first literal lays. -/
noncomputable def row3 (o : Oper) : Row3 :=
  match o.op with
  | .build _ ps =>
    match ps.toList with
    | [(_, .const (.string s)), (_, .const (.int _ f)), (_, .const (.int _ z))] => (s, f, z)
    | _ => (⟨#[]⟩, 0, 0)
  | _ => (⟨#[]⟩, 0, 0)
/-- The row that an operation of the second literal lays. -/
noncomputable def row5 (o : Oper) : Row5 :=
  match o.op with
  | .build _ ps =>
    match ps.toList with
    | [(_, .const (.string s)), (_, .const (.int _ f)), (_, .const (.int _ z)), (_, .const (.string b)), (_, .const (.int _ c))] => (s, f, z, b, c)
    | _ => (⟨#[]⟩, 0, 0, ⟨#[]⟩, 0)
  | _ => (⟨#[]⟩, 0, 0, ⟨#[]⟩, 0)
/-- The rows of the first literal (the thin package's list), read off the loaded program. -/
noncomputable def implRows : List Row3 := ((opsOf Try.f4).take 203).map row3
/-- The rows of the second literal (the reference's list), read off the loaded program. -/
noncomputable def specRows : List Row5 := ((opsOf Try.f5).take 203).map row5

theorem implRows_length : implRows.length = 203 := by kernel_rfl
theorem specRows_length : specRows.length = 203 := by kernel_rfl

attribute [local irreducible] wpList Code.wp implRows specRows

set_option maxRecDepth 100000 in
set_option maxHeartbeats 400000 in
theorem impl_ops (w : World) :
    Calls Try.prog 4 #[] w fun e w' => e = .returned (.slice (some ⟨w.heap.size, 0, none⟩) 203 203) ∧ w' = w.alloc (.cells (implRows.flatMap cells3).toArray 27) := by
  refine calls_of_wp Try.func4 rfl ?_
  generalize ha : (Act.mk _ _ : Act) = a0
  have hs0 : a0.tmps.size = 205 := by subst ha; as_aux_lemma => kernel_rfl
  have hd0 : a0.defers = [] := by subst ha; rfl
  clear ha
  apply wp_seq_k; intro K hK
  apply wp_region_lit
  refine wpList_plain rfl fun K1 hK1 => ?_
  show K1 (a0.put (some 0) (.slice none 0 0)) w
  refine hK1 _ _ ?_
  apply wpList_nil
  refine hK _ _ ?_
  clear hK1 K1 hK K
  generalize ha : a0.put (some 0) (.slice none 0 0) = a1
  have hs1 : a1.tmps.size = 205 := by subst ha; rw [Act.size_put, hs0]
  have hd1 : a1.defers = [] := by subst ha; rw [Act.defers_put', hd0]
  clear ha hs0 hd0 a0
  apply wp_seq_k; intro K hK
  apply wp_region_lit
  refine wpList_parted 203 (rowOps 27 "list.go:5" cells3 1 implRows) (by as_aux_lemma => kernel_rfl) ?_
  refine wpList_rows 27 "list.go:5" cells3 (fun _ => by as_aux_lemma => kernel_rfl) implRows 1 _ (by rw [hs1, implRows_length]; decide) fun a2 hs2 hd2 hev _ => ?_
  refine wpList_sliceOfRows rfl 22 27 203 3 _ cells3 implRows rfl implRows_length 1 (some 204) rfl (by as_aux_lemma => kernel_rfl) (by as_aux_lemma => kernel_rfl) (by as_aux_lemma => kernel_rfl) (by decide) (by decide) (by decide) (fun _ => rfl) (by as_aux_lemma => kernel_rfl) hev ?_
  refine wpList_plain rfl fun K1 hK1 => ?_
  show K1 ((a2.put (some 204) (.slice (some ⟨w.heap.size, 0, none⟩) 203 203)).put (some 0) ((a2.put (some 204) (.slice (some ⟨w.heap.size, 0, none⟩) 203 203)).eval (.tmp 204))) _
  refine hK1 _ _ ?_
  apply wpList_nil
  refine hK _ _ ?_
  clear hK1 K1 hK K
  apply wp_ret
  refine bodyPost_ret (results_tmp rfl _ _ _) ?_ ⟨?_, rfl⟩
  · rw [Act.defers_put', Act.defers_put', hd2, hd1]
  · rw [Act.eval_put_same _ _ _ (by rw [hs2, hs1]; decide)]
    exact congrArg Ending.returned (Act.eval_put_same (a2.put (some 204) (.slice (some ⟨w.heap.size, 0, none⟩) 203 203)) 0 _ (by rw [Act.size_put, hs2, hs1]; decide))

set_option maxRecDepth 100000 in
set_option maxHeartbeats 400000 in
theorem spec_ops (w : World) :
    Calls Try.prog 5 #[] w fun e w' => e = .returned (.slice (some ⟨w.heap.size, 0, none⟩) 203 203) ∧ w' = w.alloc (.cells (specRows.flatMap cells5).toArray 29) := by
  refine calls_of_wp Try.func5 rfl ?_
  generalize ha : (Act.mk _ _ : Act) = a0
  have hs0 : a0.tmps.size = 205 := by subst ha; as_aux_lemma => kernel_rfl
  have hd0 : a0.defers = [] := by subst ha; rfl
  clear ha
  apply wp_seq_k; intro K hK
  apply wp_region_lit
  refine wpList_plain rfl fun K1 hK1 => ?_
  show K1 (a0.put (some 0) (.slice none 0 0)) w
  refine hK1 _ _ ?_
  apply wpList_nil
  refine hK _ _ ?_
  clear hK1 K1 hK K
  generalize ha : a0.put (some 0) (.slice none 0 0) = a1
  have hs1 : a1.tmps.size = 205 := by subst ha; rw [Act.size_put, hs0]
  have hd1 : a1.defers = [] := by subst ha; rw [Act.defers_put', hd0]
  clear ha hs0 hd0 a0
  apply wp_seq_k; intro K hK
  apply wp_region_lit
  refine wpList_parted 203 (rowOps 29 "ops.go:16" cells5 1 specRows) (by as_aux_lemma => kernel_rfl) ?_
  refine wpList_rows 29 "ops.go:16" cells5 (fun _ => by as_aux_lemma => kernel_rfl) specRows 1 _ (by rw [hs1, specRows_length]; decide) fun a2 hs2 hd2 hev _ => ?_
  refine wpList_sliceOfRows rfl 24 29 203 5 _ cells5 specRows rfl specRows_length 1 (some 204) rfl (by as_aux_lemma => kernel_rfl) (by as_aux_lemma => kernel_rfl) (by as_aux_lemma => kernel_rfl) (by decide) (by decide) (by decide) (fun _ => rfl) (by as_aux_lemma => kernel_rfl) hev ?_
  refine wpList_plain rfl fun K1 hK1 => ?_
  show K1 ((a2.put (some 204) (.slice (some ⟨w.heap.size, 0, none⟩) 203 203)).put (some 0) ((a2.put (some 204) (.slice (some ⟨w.heap.size, 0, none⟩) 203 203)).eval (.tmp 204))) _
  refine hK1 _ _ ?_
  apply wpList_nil
  refine hK _ _ ?_
  clear hK1 K1 hK K
  apply wp_ret
  refine bodyPost_ret (results_tmp rfl _ _ _) ?_ ⟨?_, rfl⟩
  · rw [Act.defers_put', Act.defers_put', hd2, hd1]
  · rw [Act.eval_put_same _ _ _ (by rw [hs2, hs1]; decide)]
    exact congrArg Ending.returned (Act.eval_put_same (a2.put (some 204) (.slice (some ⟨w.heap.size, 0, none⟩) 203 203)) 0 _ (by rw [Act.size_put, hs2, hs1]; decide))

/-- The plain law: row by row the two literals agree in name, form and size. -/
theorem rows_agree : implRows = specRows.map short := by kernel_rfl

end Go.Proofs.Ytlmbaikdbhleiaa
