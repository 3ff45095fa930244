import Derived.Test.YbulkdibaDel
namespace Go.Proofs.Ybulkdiba
open Go.RowKit Go.Maps
set_option linter.unusedVariables false

/-- A writer, cell by cell. -/
def WrAt (w : World) (W M : Nat) (d : Nat → Int) : Prop :=
  ∃ cs, w.heap[W]? = some (.cells cs 44 (0, 0)) ∧ cs.size = 21 ∧ cs[0]? = some (.map (some M)) ∧ ∀ i, i < 20 → cs[1 + i]? = some (.int .u8 (d i))
/-- An index, as far as it is looked at. -/
def IdxAt (w : World) (I mE mW : Nat) : Prop := ∃ cs, w.heap[I]? = some (.cells cs 37 (0, 0)) ∧ cs[0]? = some (.map (some mE)) ∧ cs[16]? = some (.map (some mW))
/-- An entry, as far as it is looked at. -/
def EntAt (w : World) (E k : Nat) (by_ : ByteArray) : Prop := ∃ cs, w.heap[E]? = some (.cells cs 57 (0, 0)) ∧ cs.size = 34 ∧ (∀ i, i < 20 → cs[i]? = some (.int .u8 (idb k i))) ∧ cs[30]? = some (.string by_)

structure WrS where
  W : Nat
  M : Nat
  d : Nat → Int
  L : List (Nat × Nat)

def xorD (d : Nat → Int) (k : Nat) : Nat → Int := fun i => xr (d i) (idb k i)

def WrOk (w : World) (s : WrS) : Prop := WrAt w s.W s.M s.d ∧ MapI w s.M s.L

theorem WrAt.lt {w : World} {W M : Nat} {d : Nat → Int} (h : WrAt w W M d) : W < w.heap.size := by obtain ⟨cs, h, _⟩ := h; exact (Array.getElem?_eq_some_iff.1 h).1
theorem WrAt.same {w w' : World} {W M : Nat} {d : Nat → Int} (h : WrAt w W M d) (hb : w'.heap[W]? = w.heap[W]?) : WrAt w' W M d := by obtain ⟨cs, h, r⟩ := h; exact ⟨cs, hb.trans h, r⟩
theorem IdxAt.lt {w : World} {I mE mW : Nat} (h : IdxAt w I mE mW) : I < w.heap.size := by obtain ⟨cs, h, _⟩ := h; exact (Array.getElem?_eq_some_iff.1 h).1
theorem IdxAt.same {w w' : World} {I mE mW : Nat} (h : IdxAt w I mE mW) (hb : w'.heap[I]? = w.heap[I]?) : IdxAt w' I mE mW := by obtain ⟨cs, h, r⟩ := h; exact ⟨cs, hb.trans h, r⟩
theorem EntAt.lt {w : World} {E k : Nat} {b : ByteArray} (h : EntAt w E k b) : E < w.heap.size := by obtain ⟨cs, h, _⟩ := h; exact (Array.getElem?_eq_some_iff.1 h).1
theorem EntAt.same {w w' : World} {E k : Nat} {b : ByteArray} (h : EntAt w E k b) (hb : w'.heap[E]? = w.heap[E]?) : EntAt w' E k b := by obtain ⟨cs, h, r⟩ := h; exact ⟨cs, hb.trans h, r⟩
theorem WrOk.same {w w' : World} {s : WrS} (h : WrOk w s) (hW : w'.heap[s.W]? = w.heap[s.W]?) (hM : w'.heap[s.M]? = w.heap[s.M]?) : WrOk w' s := ⟨h.1.same hW, MapG.same h.2 hM⟩

theorem WrAt.cell {w : World} {W M : Nat} {d : Nat → Int} (h : WrAt w W M d) : w.cell? ⟨W, 0, none⟩ = some (.map (some M)) := by
  obtain ⟨cs, h, _, h0, _⟩ := h; rw [cell_of_row w W 0 cs 44 (0, 0) h]; exact h0
theorem IdxAt.cells {w : World} {I mE mW : Nat} (h : IdxAt w I mE mW) : w.cell? ⟨I, 0, none⟩ = some (.map (some mE)) ∧ w.cell? ⟨I, 16, none⟩ = some (.map (some mW)) := by
  obtain ⟨cs, h, h0, h1⟩ := h
  exact ⟨by rw [cell_of_row w I 0 cs 37 (0, 0) h]; exact h0, by rw [cell_of_row w I 16 cs 37 (0, 0) h]; exact h1⟩
theorem EntAt.cells {w : World} {E k : Nat} {b : ByteArray} (h : EntAt w E k b) : (∀ i, i < 20 → w.cell? ⟨E, i, none⟩ = some (.int .u8 (idb k i))) ∧ w.cell? ⟨E, 30, none⟩ = some (.string b) ∧ w.frozen? ⟨E, 30, none⟩ = false := by
  obtain ⟨cs, h, _, h0, h1⟩ := h
  exact ⟨fun i hi => by rw [cell_of_row w E i cs 57 (0, 0) h]; exact h0 i hi, by rw [cell_of_row w E 30 cs 57 (0, 0) h]; exact h1, frozen_of_row w E 30 cs 57 h⟩
theorem EntAt.setBy {w : World} {E k : Nat} {b : ByteArray} (h : EntAt w E k b) (b' : ByteArray) : EntAt (w.setCell ⟨E, 30, none⟩ (.string b')) E k b' := by
  obtain ⟨cs, h, hs, h0, h1⟩ := h
  refine ⟨_, heap_setCell_same w E 30 cs 57 _ h, by simp [hs], fun i hi => ?_, ?_⟩
  · rw [Array.getElem?_setIfInBounds, if_neg (by omega)]; exact h0 i hi
  · rw [Array.getElem?_setIfInBounds, if_pos rfl, if_pos (by omega)]

/-- A writer's digest, toggled. -/
theorem WrAt.toggled {w w' : World} {W M k : Nat} {d : Nat → Int} {cs : Array Value} (hs : cs.size = 21) (h0 : cs[0]? = some (.map (some M))) (h : Toggled w w' W 44 1 cs d k) : WrAt w' W M (xorD d k) := by
  obtain ⟨⟨cs', h1, h2, h3, h4⟩, _⟩ := h
  exact ⟨cs', h1, by rw [h2, hs], by rw [h4 0 (by omega)]; exact h0, h3⟩

theorem zero48 (w : World) : (zeroValue 48).run Yba.prog w = .ok (.pointer none) w := by kernel_rfl
theorem zero41 (w : World) : (zeroValue 41).run Yba.prog w = .ok (.pointer none) w := by kernel_rfl

theorem MapI.lookAt {w : World} {b : Nat} {L : List (Nat × Nat)} (h : MapI w b L) {k : Nat} (hk : k < 256) (n : Nat) : (Instr.lookup 28 (.map (some b)) (.agg (idArr k)) false).run Yba.prog (w.drewN n) = .ok (ptrO (getL k L)) (w.drewN n) :=
  MapG.look (w := w.drewN n) idSet (MapG.same h rfl) Yba.underlying28 (zero48 _) hk
theorem MapS.lookAt {w : World} {b : Nat} {L : List (ByteArray × Nat)} (h : MapS w b L) {s : ByteArray} (hs : s.size ≤ maxLen) (n : Nat) : (Instr.lookup 29 (.map (some b)) (.string s) false).run Yba.prog (w.drewN n) = .ok (ptrO (getL s L)) (w.drewN n) :=
  MapG.look (w := w.drewN n) strSet (MapG.same h rfl) Yba.underlying29 (zero41 _) hs
theorem mem_isSome {κ : Type} [DecidableEq κ] (k : κ) (L : List (κ × Nat)) : decide (k ∈ L.map (fun x => x.1)) = (getL k L).isSome := by
  have h := getL_none_iff k L
  cases hg : getL k L with
  | none => rw [hg] at h; simpa using h.1 rfl
  | some p => rw [hg] at h; simp only [Option.isSome_some, decide_eq_true_eq]; exact Decidable.byContradiction fun hn => by simpa using h.2 hn

theorem MapS.lookOk {w : World} {b : Nat} {L : List (ByteArray × Nat)} (h : MapS w b L) {s : ByteArray} (hs : s.size ≤ maxLen) (n : Nat) :
    (Instr.lookup 29 (.map (some b)) (.string s) true).run Yba.prog (w.drewN n) = .ok (.tuple #[ptrO (getL s L), .bool (getL s L).isSome]) (w.drewN n) := by
  rw [← mem_isSome]
  exact MapG.look_ok (w := w.drewN n) strSet (MapG.same h rfl) Yba.underlying29 (zero41 _) hs

end Go.Proofs.Ybulkdiba
