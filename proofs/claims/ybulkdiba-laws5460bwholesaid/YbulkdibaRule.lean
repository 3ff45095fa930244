import Derived.Test.YbulkdibaWr
namespace Go.Proofs.Ybulkdiba
open Go.RowKit Go.Maps
set_option linter.unusedVariables false

/-- The n cells behind a pointer, as they lie. -/
def rdV (w : World) (v : Value) (n : Nat) : Array Value :=
  match v with
  | .pointer (some a) => ((List.range n).map fun i => (w.cell? ⟨a.block, a.off + i, none⟩).getD undef).toArray
  | _ => #[]
/-- They are all there. -/
def okV (w : World) (v : Value) (n : Nat) : Bool :=
  match v with
  | .pointer (some a) => a.spot.isNone && (List.range n).all fun i => (w.cell? ⟨a.block, a.off + i, none⟩).isSome
  | _ => false

theorem exec_load {ty e : TypeId} {m n : Nat} (hu : Yba.prog.underlying ty = some (.array m e)) (hi : (Yba.prog.info? ty).map (·.size) = some n)
    (ρ : Operand → Value) (dst : Option Tmp) (x : Operand) (t : TypeId) (pos : String) (after : Array Edge) (guard : Option (Nat × Bool)) (w : World) (h : okV w (ρ x) n = true) :
    Sem.run Yba.prog (execOp ρ { dst := dst, op := Op.load ty x, type := t, pos := pos, after := after, guard := guard }) w = .ok (.value (.agg (rdV w (ρ x) n))) w := by
  unfold okV at h
  split at h
  · rename_i a ha
    obtain ⟨b, o, spot⟩ := a
    simp only [Bool.and_eq_true, Option.isNone_iff_eq_none, List.all_eq_true, List.mem_range] at h
    obtain ⟨rfl, h⟩ := h
    have hrun := run_loadAt_cells (P := Yba.prog) w ty (.array m e) b o ((List.range n).map fun i => (w.cell? ⟨b, o + i, none⟩).getD undef) hu rfl (by simpa using hi) (fun j u hj => by
      have hjn : j < n := by have := (List.getElem?_eq_some_iff.1 hj).1; simpa using this
      obtain ⟨v, hv⟩ := Option.isSome_iff_exists.1 (h j hjn)
      simp [hjn, hv] at hj
      rw [hv, hj])
    simp [execOp, ha, hrun, Result.andThen, rdV]
  · simp at h

theorem exec_load49 (ρ : Operand → Value) (dst : Option Tmp) (x : Operand) (t : TypeId) (pos : String) (after : Array Edge) (guard : Option (Nat × Bool)) (w : World) (h : okV w (ρ x) 20 = true) :
    Sem.run Yba.prog (execOp ρ { dst := dst, op := Op.load 49 x, type := t, pos := pos, after := after, guard := guard }) w = .ok (.value (.agg (rdV w (ρ x) 20))) w :=
  exec_load Yba.underlying49 Yba.size49 ρ dst x t pos after guard w h
theorem exec_load42 (ρ : Operand → Value) (dst : Option Tmp) (x : Operand) (t : TypeId) (pos : String) (after : Array Edge) (guard : Option (Nat × Bool)) (w : World) (h : okV w (ρ x) 20 = true) :
    Sem.run Yba.prog (execOp ρ { dst := dst, op := Op.load 42 x, type := t, pos := pos, after := after, guard := guard }) w = .ok (.value (.agg (rdV w (ρ x) 20))) w :=
  exec_load Yba.underlying42 Yba.size42 ρ dst x t pos after guard w h
theorem exec_load24 (ρ : Operand → Value) (dst : Option Tmp) (x : Operand) (t : TypeId) (pos : String) (after : Array Edge) (guard : Option (Nat × Bool)) (w : World) (h : okV w (ρ x) 20 = true) :
    Sem.run Yba.prog (execOp ρ { dst := dst, op := Op.load 24 x, type := t, pos := pos, after := after, guard := guard }) w = .ok (.value (.agg (rdV w (ρ x) 20))) w :=
  exec_load Yba.underlying24 Yba.size24 ρ dst x t pos after guard w h

theorem wp_load49 (dst : Option Tmp) (x : Operand) (t : TypeId) (pos : String) (after : Array Edge) (guard : Option (Nat × Bool)) (a : Act) (w : World) (K : Act → World → Prop) (Q : Exit → Act → World → Prop) (h : okV w (a.eval x) 20 = true) :
    Oper.wp Yba.prog { dst := dst, op := Op.load 49 x, type := t, pos := pos, after := after, guard := guard } a w K Q = K (a.put dst (.agg (rdV w (a.eval x) 20))) w := by
  unfold Oper.wp
  rw [exec_load49 a.eval dst x t pos after guard w h]
  rfl

theorem rd_of {w : World} {b o : Nat} {f : Nat → Value} (h : ∀ i, i < 20 → w.cell? ⟨b, o + i, none⟩ = some (f i)) :
    okV w (.pointer (some ⟨b, o, none⟩)) 20 = true ∧ rdV w (.pointer (some ⟨b, o, none⟩)) 20 = ((List.range 20).map f).toArray := by
  refine ⟨?_, ?_⟩
  · simp only [okV, Bool.and_eq_true, List.all_eq_true, List.mem_range]
    exact ⟨rfl, fun i hi => by rw [h i hi]; rfl⟩
  · simp only [rdV]
    congr 1
    apply List.map_congr_left
    intro i hi
    rw [h i (by simpa using hi)]; rfl

theorem EntAt.rd {w : World} {E k : Nat} {b : ByteArray} (h : EntAt w E k b) : okV w (.pointer (some ⟨E, 0, none⟩)) 20 = true ∧ rdV w (.pointer (some ⟨E, 0, none⟩)) 20 = idArr k :=
  rd_of (f := fun i => .int .u8 (idb k i)) (fun i hi => by rw [Nat.zero_add]; exact h.cells.1 i hi)

end Go.Proofs.Ybulkdiba
