import Derived.Test.YbulkdibaKeys
import Derived.Deep.WholeRow
import Derived.Laws.CopyOwn
import Derived.RegionTactic
import Derived.BigRegion
import Derived.Deep.QuietTactic
import Derived.BigQuiet
import Derived.WalkSpells
import Derived.Laws.ResultCell
namespace Go.Proofs.Ybulkdiba
open Go.RowKit Go.Maps
set_option linter.unusedVariables false

theorem below_drewN {B : Nat} {a w : World} (h : Below B a w) (n : Nat) : Below B a (w.drewN n) := h.trans ⟨rfl, rfl, rfl, Nat.le_refl _, fun _ _ => rfl⟩

/-- 'new' laid over 'cur' from place 'off' on. -/
def spl (cur : Array Value) (off : Nat) (new : Array Value) : Array Value := (cur.toList.take off ++ new.toList ++ cur.toList.drop (off + new.size)).toArray

theorem size_spl (cur : Array Value) (off : Nat) (new : Array Value) (h : off + new.size ≤ cur.size) : (spl cur off new).size = cur.size := by
  simp [spl]; omega

theorem spl_in (cur : Array Value) (off : Nat) (new : Array Value) (h : off + new.size ≤ cur.size) (j : Nat) (hj : j < new.size) : (spl cur off new)[off + j]? = new[j]? := by
  simp only [spl, List.getElem?_toArray]
  rw [List.getElem?_append_left (by simp; omega), List.getElem?_append_right (by simp; omega)]
  simp
  congr 1
  omega

theorem spl_out (cur : Array Value) (off : Nat) (new : Array Value) (h : off + new.size ≤ cur.size) (j : Nat) (hj : j < off ∨ off + new.size ≤ j) : (spl cur off new)[j]? = cur[j]? := by
  simp only [spl, List.getElem?_toArray]
  rcases hj with hj | hj
  · rw [List.getElem?_append_left (by simp; omega), List.getElem?_append_left (by simp; omega), List.getElem?_take, if_pos hj]
    simp
  · rw [List.getElem?_append_right (by simp; omega), List.getElem?_drop]
    simp
    congr 1
    omega

theorem spl_whole (cur new : Array Value) (h : cur.size = new.size) : spl cur 0 new = new := by
  apply Array.ext'
  simp [spl, h]

theorem some_of_map {α β : Type} {x : Option α} {f : α → β} {b : β} (h : x.map f = some b) : ∃ i, x = some i := by
  cases x with
  | none => cases h
  | some i => exact ⟨i, rfl⟩

section
variable {P : Program} {ops : Array Oper} {rest : List Oper} {o : Oper} {a : Act} {w : World} {Q : Exit → Act → World → Prop}

theorem run_loadAt_cells (w : World) (ty : TypeId) (d : TypeDesc) (g off : Nat) (cs : List Value) (hu : P.underlying ty = some d) (hd : (match d with | .struct _ | .array _ _ => true | _ => false) = true) (hi : (P.info? ty).map (·.size) = some cs.length)
    (hc : ∀ j u, cs[j]? = some u → w.cell? ⟨g, off + j, none⟩ = some u) : (Instr.loadAt ty (.pointer (some ⟨g, off, none⟩))).run P w = .ok (.agg cs.toArray) w := by
  have hl := run_loadCells_list (P := P) w ⟨g, off, none⟩ cs (fun j v hv => by rw [Addr.add_lit]; exact hc j v hv)
  obtain ⟨i, hq⟩ := some_of_map hi
  have hs : i.size = cs.length := by simpa [hq] using hi
  have hagg : (isAgg ty).run P w = .ok true w := by
    unfold isAgg
    rw [Sem.run_bind, run_underlying hu w]
    cases d <;> simp_all
  simp [Instr.loadAt, Instr.sureAddr, loadVar, Sem.run_bind, hagg, sizeOf, typeInfo, hq, hs, hl]

theorem run_storeAt_row (w : World) (ty t : TypeId) (g off : Nat) (cur new : Array Value) (hg : w.heap[g]? = some (.cells cur t (0, 0))) (hi : (P.info? ty).map (·.size) = some new.size) (hfit : off + new.size ≤ cur.size) (h1 : new.all (·.oneCell') = true) :
    (Instr.storeAt ty (.pointer (some ⟨g, off, none⟩)) (.agg new)).run P w = .ok () (w.setRow g (spl cur off new)) := by
  have hst := run_storeCells_at P g off t new.toList 0 cur w hg (by simpa using hfit) (by
    intro v hv
    obtain ⟨j, hj, rfl⟩ := List.mem_iff_getElem.1 hv
    exact (Array.all_eq_true.1 h1) j (by simpa using hj))
  obtain ⟨i, hq⟩ := some_of_map hi
  have hs : i.size = new.size := by simpa [hq] using hi
  simp only [Nat.add_zero, Array.length_toList] at hst
  simp [Instr.storeAt, Instr.sureAddr, storeVar, sizeOf, typeInfo, hq, hs, Value.cells, hst, spl]

theorem grown_setRow (w : World) (g : Nat) (cs : Array Value) : w.grownBy (w.setRow g cs) (some g) :=
  ⟨rfl, rfl, rfl, by simp [World.setRow], fun k _ hne => setRow_other w g k cs (fun e => hne (by rw [e]))⟩

/-- An array or a struct read out of the middle of a block. -/
theorem wpList_load_cells (hgd : o.guard = none) (ty : TypeId) (x : Operand) (ho : o.op = .load ty x) (d : TypeDesc) (g off : Nat) (cs : List Value) (hx : a.eval x = .pointer (some ⟨g, off, none⟩))
    (hu : P.underlying ty = some d) (hd : (match d with | .struct _ | .array _ _ => true | _ => false) = true) (hi : (P.info? ty).map (·.size) = some cs.length) (hc : ∀ j u, cs[j]? = some u → w.cell? ⟨g, off + j, none⟩ = some u)
    (h : wpList P ops Q rest (a.put o.dst (.agg cs.toArray)) w) : wpList P ops Q (o :: rest) a w := by
  refine wpList_plain hgd fun K hK => ?_
  have hrun := run_loadAt_cells (P := P) w ty d g off cs hu hd hi hc
  unfold Oper.wp
  simp [execOp, ho, hx, hrun, Result.andThen]
  exact hK _ _ h

/-- An array or a struct laid into a block. -/
theorem wpList_store_row (hgd : o.guard = none) (ty : TypeId) (p x : Operand) (ho : o.op = .store ty p x) (hd : o.dst = none) (g off : Nat) (cur new : Array Value) (t : TypeId)
    (hp : a.eval p = .pointer (some ⟨g, off, none⟩)) (hx : a.eval x = .agg new) (hg : w.heap[g]? = some (.cells cur t (0, 0))) (hi : (P.info? ty).map (·.size) = some new.size) (hfit : off + new.size ≤ cur.size) (h1 : new.all (·.oneCell') = true)
    (h : ∀ w', w'.heap[g]? = some (.cells (spl cur off new) t (0, 0)) → w.grownBy w' (some g) → w'.heap.size = w.heap.size → wpList P ops Q rest a w') : wpList P ops Q (o :: rest) a w := by
  refine wpList_plain hgd fun K hK => ?_
  have hrun := run_storeAt_row (P := P) w ty t g off cur new hg hi hfit h1
  unfold Oper.wp
  simp [execOp, ho, hp, hx, hrun, Oper.upon, hd, Act.put]
  exact hK _ _ (h _ (setRow_heap w g _ _ t _ hg) (grown_setRow w g _) (by simp [World.setRow]))

end

theorem Yba.size49 : (Yba.prog.info? 49).map (·.size) = some 20 := by kernel_rfl
theorem Yba.size24 : (Yba.prog.info? 24).map (·.size) = some 20 := by kernel_rfl
theorem Yba.size42 : (Yba.prog.info? 42).map (·.size) = some 20 := by kernel_rfl

theorem size_idArr (x : Nat) : (idArr x).size = 20 := by simp [idArr, idL]
theorem idArr_at (x i : Nat) (h : i < 20) : (idArr x)[i]? = some (.int .u8 (idb x i)) := by simp [idArr, idL, h]
theorem idArr_one (x : Nat) : (idArr x).all (·.oneCell') = true := by
  rw [Array.all_eq_true]
  intro i hi
  have := idArr_at x i (by rw [size_idArr] at hi; exact hi)
  rw [Array.getElem?_eq_getElem hi] at this
  rw [Option.some.inj this]
  rfl
theorem idArr_of (x : Nat) (F : Array Value) (hF : F.size = 20) (h : ∀ p, p < 20 → F[p]? = some (.int .u8 (idb x p))) : F = idArr x := by
  apply Array.ext_getElem?
  intro p
  by_cases hp : p < 20
  · rw [h p hp, idArr_at x p hp]
  · rw [Array.getElem?_eq_none (by omega), Array.getElem?_eq_none (by rw [size_idArr]; omega)]

end Go.Proofs.Ybulkdiba
