import Derived.Test.YbulkdibaInit
namespace Go.Proofs.Ybulkdiba
open Go.RowKit Go.Maps
set_option linter.unusedVariables false

theorem run_build57 (a0 a1 a2 a3 a4 a5 a6 a7 a8 a9 a10 a11 a12 a13 a14 a15 a16 a17 a18 a19 : Value) (s : ByteArray) (w : World) : (Instr.build 57 #[(0, .agg #[a0, a1, a2, a3, a4, a5, a6, a7, a8, a9, a10, a11, a12, a13, a14, a15, a16, a17, a18, a19]), (5, .string s)]).run Yba.prog w = .ok (.agg #[a0, a1, a2, a3, a4, a5, a6, a7, a8, a9, a10, a11, a12, a13, a14, a15, a16, a17, a18, a19, Value.slice none 0 0, Value.int IntKind.u64 0, Value.int IntKind.i64 0, Value.pointer none, Value.int IntKind.u64 0, Value.int IntKind.i64 0, Value.pointer none, Value.int IntKind.u64 0, Value.int IntKind.i64 0, Value.pointer none, Value.string s, Value.bool false, Value.pointer none, Value.pointer none]) w := by kernel_rfl

/-- An entry as it is built. -/
def entArr (k : Nat) (s : ByteArray) : Array Value := #[Value.int IntKind.u8 (idb k 0), Value.int IntKind.u8 (idb k 1), Value.int IntKind.u8 (idb k 2), Value.int IntKind.u8 (idb k 3), Value.int IntKind.u8 (idb k 4), Value.int IntKind.u8 (idb k 5), Value.int IntKind.u8 (idb k 6), Value.int IntKind.u8 (idb k 7), Value.int IntKind.u8 (idb k 8), Value.int IntKind.u8 (idb k 9), Value.int IntKind.u8 (idb k 10), Value.int IntKind.u8 (idb k 11), Value.int IntKind.u8 (idb k 12), Value.int IntKind.u8 (idb k 13), Value.int IntKind.u8 (idb k 14), Value.int IntKind.u8 (idb k 15), Value.int IntKind.u8 (idb k 16), Value.int IntKind.u8 (idb k 17), Value.int IntKind.u8 (idb k 18), Value.int IntKind.u8 (idb k 19), Value.slice none 0 0, Value.int IntKind.u64 0, Value.int IntKind.i64 0, Value.pointer none, Value.int IntKind.u64 0, Value.int IntKind.i64 0, Value.pointer none, Value.int IntKind.u64 0, Value.int IntKind.i64 0, Value.pointer none, Value.string s, Value.bool false, Value.pointer none, Value.pointer none]
def isId (v : Value) : Prop := ∃ k, v = .agg (idArr k)
def isStr (v : Value) : Prop := ∃ s, v = .string s
/-- What is built of an identifier and a writer's name. -/
def entOf (v u : Value) : Array Value :=
  match u with
  | .string s => match v with
    | .agg A => (A.toList ++ [Value.slice none 0 0, Value.int IntKind.u64 0, Value.int IntKind.i64 0, Value.pointer none, Value.int IntKind.u64 0, Value.int IntKind.i64 0, Value.pointer none, Value.int IntKind.u64 0, Value.int IntKind.i64 0, Value.pointer none, Value.string s, Value.bool false, Value.pointer none, Value.pointer none]).toArray
    | _ => #[]
  | _ => #[]
theorem range20 (f : Nat → Nat) : ((List.range 20).map fun i => Value.int .u8 (f i)).toArray = #[Value.int IntKind.u8 (f 0), Value.int IntKind.u8 (f 1), Value.int IntKind.u8 (f 2), Value.int IntKind.u8 (f 3), Value.int IntKind.u8 (f 4), Value.int IntKind.u8 (f 5), Value.int IntKind.u8 (f 6), Value.int IntKind.u8 (f 7), Value.int IntKind.u8 (f 8), Value.int IntKind.u8 (f 9), Value.int IntKind.u8 (f 10), Value.int IntKind.u8 (f 11), Value.int IntKind.u8 (f 12), Value.int IntKind.u8 (f 13), Value.int IntKind.u8 (f 14), Value.int IntKind.u8 (f 15), Value.int IntKind.u8 (f 16), Value.int IntKind.u8 (f 17), Value.int IntKind.u8 (f 18), Value.int IntKind.u8 (f 19)] := rfl
theorem idArr_eq (k : Nat) : idArr k = #[Value.int IntKind.u8 (idb k 0), Value.int IntKind.u8 (idb k 1), Value.int IntKind.u8 (idb k 2), Value.int IntKind.u8 (idb k 3), Value.int IntKind.u8 (idb k 4), Value.int IntKind.u8 (idb k 5), Value.int IntKind.u8 (idb k 6), Value.int IntKind.u8 (idb k 7), Value.int IntKind.u8 (idb k 8), Value.int IntKind.u8 (idb k 9), Value.int IntKind.u8 (idb k 10), Value.int IntKind.u8 (idb k 11), Value.int IntKind.u8 (idb k 12), Value.int IntKind.u8 (idb k 13), Value.int IntKind.u8 (idb k 14), Value.int IntKind.u8 (idb k 15), Value.int IntKind.u8 (idb k 16), Value.int IntKind.u8 (idb k 17), Value.int IntKind.u8 (idb k 18), Value.int IntKind.u8 (idb k 19)] := range20 (idb k)
theorem entOf_gen (f : Nat → Nat) (s : ByteArray) : entOf (.agg #[Value.int IntKind.u8 (f 0), Value.int IntKind.u8 (f 1), Value.int IntKind.u8 (f 2), Value.int IntKind.u8 (f 3), Value.int IntKind.u8 (f 4), Value.int IntKind.u8 (f 5), Value.int IntKind.u8 (f 6), Value.int IntKind.u8 (f 7), Value.int IntKind.u8 (f 8), Value.int IntKind.u8 (f 9), Value.int IntKind.u8 (f 10), Value.int IntKind.u8 (f 11), Value.int IntKind.u8 (f 12), Value.int IntKind.u8 (f 13), Value.int IntKind.u8 (f 14), Value.int IntKind.u8 (f 15), Value.int IntKind.u8 (f 16), Value.int IntKind.u8 (f 17), Value.int IntKind.u8 (f 18), Value.int IntKind.u8 (f 19)]) (.string s) = #[Value.int IntKind.u8 (f 0), Value.int IntKind.u8 (f 1), Value.int IntKind.u8 (f 2), Value.int IntKind.u8 (f 3), Value.int IntKind.u8 (f 4), Value.int IntKind.u8 (f 5), Value.int IntKind.u8 (f 6), Value.int IntKind.u8 (f 7), Value.int IntKind.u8 (f 8), Value.int IntKind.u8 (f 9), Value.int IntKind.u8 (f 10), Value.int IntKind.u8 (f 11), Value.int IntKind.u8 (f 12), Value.int IntKind.u8 (f 13), Value.int IntKind.u8 (f 14), Value.int IntKind.u8 (f 15), Value.int IntKind.u8 (f 16), Value.int IntKind.u8 (f 17), Value.int IntKind.u8 (f 18), Value.int IntKind.u8 (f 19), Value.slice none 0 0, Value.int IntKind.u64 0, Value.int IntKind.i64 0, Value.pointer none, Value.int IntKind.u64 0, Value.int IntKind.i64 0, Value.pointer none, Value.int IntKind.u64 0, Value.int IntKind.i64 0, Value.pointer none, Value.string s, Value.bool false, Value.pointer none, Value.pointer none] := by kernel_rfl
theorem entOf_id (k : Nat) (s : ByteArray) : entOf (.agg (idArr k)) (.string s) = entArr k s := by rw [idArr_eq]; exact entOf_gen (idb k) s

theorem exec_build57 (ρ : Operand → Value) (dst : Option Tmp) (x y : Operand) (t : TypeId) (pos : String) (after : Array Edge) (guard : Option (Nat × Bool)) (w : World) (h : isId (ρ x)) (h2 : isStr (ρ y)) :
    Sem.run Yba.prog (execOp ρ { dst := dst, op := Op.build 57 #[(0, x), (5, y)], type := t, pos := pos, after := after, guard := guard }) w = .ok (.value (.agg (entOf (ρ x) (ρ y)))) w := by
  obtain ⟨k, hk⟩ := h
  obtain ⟨s, hs⟩ := h2
  have h3 : (Instr.build 57 #[(0, .agg (idArr k)), (5, .string s)]).run Yba.prog w = .ok (.agg (entOf (.agg (idArr k)) (.string s))) w := by
    rw [idArr_eq, entOf_gen (idb k) s]
    exact run_build57 _ _ _ _ _ _ _ _ _ _ _ _ _ _ _ _ _ _ _ _ s w
  simp [execOp, hk, hs, h3, Result.andThen]

theorem wp_build57 (dst : Option Tmp) (x y : Operand) (t : TypeId) (pos : String) (after : Array Edge) (guard : Option (Nat × Bool)) (a : Act) (w : World) (K : Act → World → Prop) (Q : Exit → Act → World → Prop) (h : isId (a.eval x)) (h2 : isStr (a.eval y)) :
    Oper.wp Yba.prog { dst := dst, op := Op.build 57 #[(0, x), (5, y)], type := t, pos := pos, after := after, guard := guard } a w K Q = K (a.put dst (.agg (entOf (a.eval x) (a.eval y)))) w := by
  unfold Oper.wp
  rw [exec_build57 a.eval dst x y t pos after guard w h h2]
  rfl

theorem isId_id (k : Nat) : isId (.agg (idArr k)) := ⟨k, rfl⟩
theorem isStr_str (s : ByteArray) : isStr (.string s) := ⟨s, rfl⟩

theorem ent20 (f : Nat → Nat) (s : ByteArray) (i : Nat) (hi : i < 20) : (#[Value.int IntKind.u8 (f 0), Value.int IntKind.u8 (f 1), Value.int IntKind.u8 (f 2), Value.int IntKind.u8 (f 3), Value.int IntKind.u8 (f 4), Value.int IntKind.u8 (f 5), Value.int IntKind.u8 (f 6), Value.int IntKind.u8 (f 7), Value.int IntKind.u8 (f 8), Value.int IntKind.u8 (f 9), Value.int IntKind.u8 (f 10), Value.int IntKind.u8 (f 11), Value.int IntKind.u8 (f 12), Value.int IntKind.u8 (f 13), Value.int IntKind.u8 (f 14), Value.int IntKind.u8 (f 15), Value.int IntKind.u8 (f 16), Value.int IntKind.u8 (f 17), Value.int IntKind.u8 (f 18), Value.int IntKind.u8 (f 19), Value.slice none 0 0, Value.int IntKind.u64 0, Value.int IntKind.i64 0, Value.pointer none, Value.int IntKind.u64 0, Value.int IntKind.i64 0, Value.pointer none, Value.int IntKind.u64 0, Value.int IntKind.i64 0, Value.pointer none, Value.string s, Value.bool false, Value.pointer none, Value.pointer none] : Array Value)[i]? = some (.int .u8 (f i)) := by
  match i, hi with
  | 0, _ => rfl
  | 1, _ => rfl
  | 2, _ => rfl
  | 3, _ => rfl
  | 4, _ => rfl
  | 5, _ => rfl
  | 6, _ => rfl
  | 7, _ => rfl
  | 8, _ => rfl
  | 9, _ => rfl
  | 10, _ => rfl
  | 11, _ => rfl
  | 12, _ => rfl
  | 13, _ => rfl
  | 14, _ => rfl
  | 15, _ => rfl
  | 16, _ => rfl
  | 17, _ => rfl
  | 18, _ => rfl
  | 19, _ => rfl
  | n + 20, h => exact absurd h (by omega)

theorem made_ent {w w' : World} {k : Nat} {s : ByteArray} (h : w.alloc (.cells (entArr k s) 57) = w') : EntAt w' w.heap.size k s ∧ Fr (fun _ => False) w w' := by
  subst h
  refine ⟨⟨entArr k s, heap_alloc_new _ _, rfl, ?_, rfl⟩, (Fr.refl _ _).alloc _⟩
  intro i hi
  exact ent20 (idb k) s i hi

end Go.Proofs.Ybulkdiba
