import Derived.Test.YbulkdiccFill
namespace Go.Proofs.Ybulkdicc
open Go.RowKit
set_option linter.unusedVariables false

theorem mergeL_len {α : Type} (K I : List (Sp α)) : (mergeL K I).length = K.length + I.length := by
  fun_induction mergeL K I with
  | case1 K => simp
  | case2 i I => simp
  | case3 k K i I h ih => simp only [List.length_cons] at ih ⊢; omega
  | case4 k K i I h ih => simp only [List.length_cons] at ih ⊢; omega

theorem merge_k {K I : List (Sp Int)} {i j : Nat} (hi : i < K.length) (h : ∀ (hj : j < I.length), (K[i]).s < (I[j]).s) : mergeL (K.drop i) (I.drop j) = K[i] :: mergeL (K.drop (i + 1)) (I.drop j) := by
  by_cases hj : j < I.length
  · rw [List.drop_eq_getElem_cons hi, List.drop_eq_getElem_cons hj, mergeL, if_pos (h hj)]
  · rw [List.drop_of_length_le (by omega : I.length ≤ j), List.drop_eq_getElem_cons hi, mergeL, mergeL]
theorem merge_i {K I : List (Sp Int)} {i j : Nat} (hj : j < I.length) (h : ∀ (hi : i < K.length), ¬ (K[i]).s < (I[j]).s) : mergeL (K.drop i) (I.drop j) = I[j] :: mergeL (K.drop i) (I.drop (j + 1)) := by
  by_cases hi : i < K.length
  · rw [List.drop_eq_getElem_cons hi, List.drop_eq_getElem_cons hj, mergeL, if_neg (h hi)]
  · rw [List.drop_of_length_le (by omega : K.length ≤ i), List.drop_eq_getElem_cons hj, mergeL]
    cases hx : I.drop (j + 1) with
    | nil => rw [mergeL]
    | cons a b => rw [mergeL]

theorem drewN_below (w : World) (n : Nat) : Below w.heap.size w (w.drewN n) := ⟨rfl, rfl, rfl, Nat.le_refl _, fun _ _ => rfl⟩

/-- The state of the law's merge. -/
def Mrg (w0 w : World) (K I : List (Sp Int)) (i j : Nat) (out : List (Sp Int)) : Prop :=
  SRow w w0.heap.size (.slice (some ⟨w0.heap.size, 0, none⟩) out.length (K.length + I.length)) out ∧ out ++ mergeL (K.drop i) (I.drop j) = mergeL K I ∧ Below w0.heap.size w0 w

theorem Mrg.len {w0 w : World} {K I : List (Sp Int)} {i j : Nat} {out : List (Sp Int)} (h : Mrg w0 w K I i j out) : out.length + (mergeL (K.drop i) (I.drop j)).length = K.length + I.length := by
  rw [← List.length_append, h.2.1]; exact mergeL_len K I

theorem Mrg.next {w0 w w' : World} {K I : List (Sp Int)} {i j : Nat} {out : List (Sp Int)} (h : Mrg w0 w K I i j out) (hb : Below w.heap.size w w') : Mrg w0 w' K I i j out :=
  ⟨owns_below h.1 hb, h.2.1, h.2.2.trans (hb.mono h.2.2.size)⟩

theorem Mrg.push {w0 w w3 : World} {K I : List (Sp Int)} {i j i' j' : Nat} {out : List (Sp Int)} {k : Sp Int} {o : Obj} (h : Mrg w0 w K I i j out)
    (hr : w3.ownsRow w0.heap.size 50 3 (.slice (some ⟨w0.heap.size, 0, none⟩) (out.length + 1) (K.length + I.length)) (out.length + 1) (out.flatMap spC ++ spC k)) (hg : (w.alloc o).grownBy w3 (some w0.heap.size))
    (hst : mergeL (K.drop i) (I.drop j) = k :: mergeL (K.drop i') (I.drop j')) : Mrg w0 w3 K I i' j' (out ++ [k]) := by
  refine ⟨snoc_row hr, ?_, ?_⟩
  · rw [List.append_assoc, List.singleton_append, ← hst]; exact h.2.1
  · exact (h.2.2.alloc h.2.2.size _).grown hg (by have := h.2.2.size; simp; omega) (fun k hk => by cases hk; exact Nat.le_refl _)

theorem Mrg.done {w0 w : World} {K I : List (Sp Int)} {i j : Nat} {out : List (Sp Int)} (h : Mrg w0 w K I i j out) (hi : K.length ≤ i) (hj : I.length ≤ j) : out = mergeL K I := by
  have := h.2.1
  rw [List.drop_of_length_le hi, List.drop_of_length_le hj, mergeL, List.append_nil] at this
  exact this

end Go.Proofs.Ybulkdicc
