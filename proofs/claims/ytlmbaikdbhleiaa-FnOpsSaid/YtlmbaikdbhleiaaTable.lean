/-
  A slice literal whose elements are structs of constants comes to a new block that holds the elements' cells side by side, whatever the number of elements.
  Conditions: each law's own, as typed; the laws speak of any program.
-/
import Derived.Great.BuildSlice
import Derived.Great.Frames
import Derived.WalkKit
namespace Go.Proofs.Ytlmbaikdbhleiaa.Table
open Go.Great
abbrev Row3 : Type := ByteArray × Int × Int
abbrev Row5 : Type := ByteArray × Int × Int × ByteArray × Int
/-- The cells of one element of the first literal. -/
def cells3 (x : Row3) : List Value := [.string x.1, .int .i64 x.2.1, .int .i64 x.2.2]
/-- The cells of one element of the second literal. -/
def cells5 (x : Row5) : List Value := [.string x.1, .int .i64 x.2.1, .int .i64 x.2.2.1, .string x.2.2.2.1, .int .i64 x.2.2.2.2]
/-- A row of the second literal without its last two fields. -/
def short (x : Row5) : Row3 := (x.1, x.2.1, x.2.2.1)

/-- The operation that builds one element. -/
def rowOp (t : TypeId) (pos : String) (d : Nat) (vs : List Value) : Oper :=
  { dst := some d, op := .build t (vs.zipIdx.map fun x => (x.2, Operand.const x.1)).toArray, type := t, pos := pos, after := #[], guard := none }
def rowOps {α : Type} (t : TypeId) (pos : String) (c : α → List Value) : Nat → List α → List Oper
  | _, [] => []
  | d, x :: xs => rowOp t pos d (c x) :: rowOps t pos c (d + 1) xs

section
variable {P : Program} {α : Type}

/-- The builds, one after another: behind them each temporary holds its element. -/
theorem wpList_rows {ops : Array Oper} {rest : List Oper} {w : World} {Q : Exit → Act → World → Prop} (t : TypeId) (pos : String) (c : α → List Value)
    (hb : ∀ x : α, P.built t ((c x).zipIdx.map fun y => (y.2, y.1)) = some (c x).toArray) :
    ∀ (xs : List α) (d : Nat) (a : Act), d + xs.length ≤ a.tmps.size →
      (∀ a' : Act, a'.tmps.size = a.tmps.size → a'.defers = a.defers → (∀ i (h : i < xs.length), a'.eval (.tmp (d + i)) = .agg (c xs[i]).toArray) →
        (∀ j, j < d → a'.eval (.tmp j) = a.eval (.tmp j)) → wpList P ops Q rest a' w) →
      wpList P ops Q (rowOps t pos c d xs ++ rest) a w
  | [], d, a, _, h => h a rfl rfl (fun i hi => absurd hi (by simp)) (fun _ _ => rfl)
  | x :: xs, d, a, hd, h => by
    have hlt : d < a.tmps.size := by simp at hd; omega
    show wpList P ops Q (rowOp t pos d (c x) :: (rowOps t pos c (d + 1) xs ++ rest)) a w
    refine wpList_buildTo rfl t _ rfl (some d) rfl (c x).toArray ?_ ?_
    · rw [← hb x]
      congr 1
      simp [Act.eval, Function.comp_def]
    refine wpList_rows t pos c hb xs (d + 1) _ (by rw [Act.size_put]; simp at hd; omega) fun a' hs hdf hev hlow => ?_
    refine h a' (hs.trans (Act.size_put _ _ _)) (hdf.trans (Act.defers_put' _ _ _)) (fun i hi => ?_) (fun j hj => ?_)
    · cases i with
      | zero => rw [Nat.add_zero, hlow d (by omega), Act.eval_put_same _ _ _ hlt]; rfl
      | succ i =>
        have := hev i (by simpa using hi)
        rw [show d + (i + 1) = d + 1 + i by omega, this]
        rfl
    · rw [hlow j (by omega), Act.eval_put_ne _ _ _ _ (by omega)]

/-- The slice over them: the new block holds the elements' cells side by side. -/
theorem wpList_sliceOfRows {ops : Array Oper} {rest : List Oper} {o : Oper} {a : Act} {w : World} {Q : Exit → Act → World → Prop} (hg : o.guard = none) (t e : TypeId) (n s : Nat) (parts : Array (Nat × Operand)) (c : α → List Value) (T : List α)
    (ho : o.op = .buildSlice t n parts) (hn : T.length = n) (d : Nat) (dst : Option Tmp) (hdst : o.dst = dst)
    (hu : P.underlying t = some (.slice e)) (hsz : (P.info? e).map (·.size) = some s) (hz : ((P.info? e).bind (·.zero)).isSome = true)
    (hs : 0 < s) (hpos : 0 < n) (hsmall : n * s ≤ 2 ^ 24) (hc : ∀ x, (c x).length = s)
    (hparts : parts.toList = (List.range n).map fun i => (i, Operand.tmp (d + i)))
    (hev : ∀ i (h : i < T.length), a.eval (.tmp (d + i)) = .agg (c T[i]).toArray)
    (h : wpList P ops Q rest (a.put dst (.slice (some ⟨w.heap.size, 0, none⟩) n n)) (w.alloc (.cells (T.flatMap c).toArray e))) : wpList P ops Q (o :: rest) a w := by
  subst hdst
  cases hie : P.info? e with
  | none => simp [hie] at hsz
  | some ie =>
    simp only [hie, Option.map_some, Option.some.injEq, Option.bind_some] at hsz hz
    obtain ⟨z, hzz⟩ := Option.isSome_iff_exists.1 hz
    have hns : 0 < n * s := Nat.mul_pos hpos hs
    refine wpList_buildSlice hg t e n parts ho _ ie z hu hie hzz (by rw [hsz]; omega) (by rw [hsz]; omega) ?_ h
    have e1 : (parts.map fun (i, x) => (i, a.eval x)).toList = ((T.map fun x => Value.agg (c x).toArray).zipIdx 0).map fun x => (x.2, x.1) := by
      rw [Array.toList_map, hparts, List.map_map]
      apply List.ext_getElem
      · simp [hn]
      · intro i h1 h2
        have hi : i < T.length := by simpa [hn] using h1
        simp only [List.getElem_map, List.getElem_range, Function.comp, List.getElem_zipIdx, Nat.zero_add]
        rw [hev i hi]
    rw [e1, hsz]
    have := fill_whole hs (T.map fun x => Value.agg (c x).toArray) ((Array.range (n * s)).map (z.cells[· % z.cells.size]!))
      (fun v hv => by obtain ⟨x, _, rfl⟩ := List.mem_map.1 hv; simp [Value.cells, hc]) (by simp [hn])
    rw [this]
    congr 2
    simp [List.flatMap_map, Value.cells]

/-- The region's list parted behind its first n operations. -/
theorem wpList_parted {ops : Array Oper} {Q : Exit → Act → World → Prop} {l : List Oper} {a : Act} {w : World} (n : Nat) (l1 : List Oper) (hl : l = l1 ++ l.drop n)
    (h : wpList P ops Q (l1 ++ l.drop n) a w) : wpList P ops Q l a w := by rw [hl]; exact h

/-- Cell j of element i, where the elements of s cells lie side by side. -/
theorem flat_at {s : Nat} (c : α → List Value) (hc : ∀ x, (c x).length = s) : ∀ (T : List α) (i j : Nat) (hi : i < T.length), j < s → (T.flatMap c)[i * s + j]? = (c T[i])[j]?
  | [], i, j, hi, _ => absurd hi (by simp)
  | x :: xs, 0, j, _, hj => by
    rw [Nat.zero_mul, Nat.zero_add, List.flatMap_cons, List.getElem?_append_left (by rw [hc]; exact hj)]
    rfl
  | x :: xs, i + 1, j, hi, hj => by
    rw [List.flatMap_cons, List.getElem?_append_right (by rw [hc, Nat.add_mul]; omega), hc, show (i + 1) * s + j - s = i * s + j by rw [Nat.add_mul]; omega]
    exact flat_at c hc xs i j (by simpa using hi) hj
end

end Go.Proofs.Ytlmbaikdbhleiaa.Table
