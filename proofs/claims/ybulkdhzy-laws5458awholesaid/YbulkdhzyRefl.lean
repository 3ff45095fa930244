import Derived.Test.YbulkdhzyLookup
import Derived.ChangeKeysEq
import Derived.Deep.WholeRow
namespace Go.Proofs.Ybulkdhzy
open Go.RowKit
set_option linter.unusedVariables false

theorem Yba.info22 : (Yba.prog.info? 22).map (·.size) = some 1 := by kernel_rfl
theorem Yba.info29 : (Yba.prog.info? 29).map (·.size) = some 9 := by kernel_rfl
theorem Yba.cells22 : Yba.prog.cellsOf 22 = 1 := by kernel_rfl
theorem Yba.cells29 : Yba.prog.cellsOf 29 = 9 := by kernel_rfl
theorem Yba.stood29 : Yba.prog.stoodInHeld 29 = false := by kernel_rfl

theorem some_of_map {α β : Type} {x : Option α} {f : α → β} {b : β} (h : x.map f = some b) : ∃ i, x = some i := by
  cases x with
  | none => cases h
  | some i => exact ⟨i, rfl⟩

theorem refl27 (a b c : Int) (d : Nat) (w : World) : (Op.equalIn (d + 2) 27 (.agg #[.int .u64 a, .int .u64 b, .int .u64 c]) (.agg #[.int .u64 a, .int .u64 b, .int .u64 c])).run Yba.prog w = .ok true w := by
  obtain ⟨i, hi⟩ := some_of_map Yba.info22
  rw [run_equalIn_array w (d + 1) _ _ Yba.underlying27 hi, Yba.cells22]
  have e : ∀ (x : Int) (w : World), (Op.equalIn (d + 1) 22 (.int .u64 x) (.int .u64 x)).run Yba.prog w = .ok true w := fun x w => by
    rw [run_equalIn_int w d 22 .u64 .u64 x x Yba.underlying22]; simp
  simp [List.range, List.range.loop, Op.eqItems, part, Yba.isAgg22, e]

theorem part27 (f : Nat → Int) (w : World) : (part 27 (nineOf f) 0).run Yba.prog w = .ok (.agg #[.int .u64 (f 0), .int .u64 (f 1), .int .u64 (f 2)]) w ∧ (part 27 (nineOf f) 3).run Yba.prog w = .ok (.agg #[.int .u64 (f 3), .int .u64 (f 4), .int .u64 (f 5)]) w ∧
    (part 27 (nineOf f) 6).run Yba.prog w = .ok (.agg #[.int .u64 (f 6), .int .u64 (f 7), .int .u64 (f 8)]) w := by
  refine ⟨?_, ?_, ?_⟩ <;> simp [part, Yba.isAgg27, Yba.sizeOf27, nineOf]

theorem refl29 (f : Nat → Int) (d : Nat) (w : World) : (Op.equalIn (d + 3) 29 (.agg (nineOf f)) (.agg (nineOf f))).run Yba.prog w = .ok true w := by
  have hu : Yba.prog.underlying 29 = some (.struct (Yba.prog.fieldsOf 29)) := by simp [Program.fieldsOf, Yba.underlying29]
  rw [run_equalIn_struct w (d + 2) 29 _ _ hu Yba.stood29]
  have p := part27 f
  simp [Program.fieldsOf, Yba.underlying29, Op.eqFields, fun w => (p w).1, fun w => (p w).2.1, fun w => (p w).2.2, refl27]

theorem extract9 (A : Array Value) (T : Nat → Int) (hA : ∀ p, p < 144 → A[p]? = some (.int .u64 (T p))) (hs : A.size = 144) (i : Nat) (hi : i < 16) : A.extract (i * 9) (i * 9 + 9) = nineOf (fun p => T (i * 9 + p)) := by
  refine nine _ (fun p => T (i * 9 + p)) (by simp; omega) fun p hp => ?_
  rw [Array.getElem?_extract, if_pos (by omega)]
  exact hA _ (by omega)

theorem items_refl (d : Nat) (A : Array Value) (T : Nat → Int) (hA : ∀ p, p < 144 → A[p]? = some (.int .u64 (T p))) (hs : A.size = 144) : ∀ (is : List Nat) (w : World), (∀ i ∈ is, i < 16) →
    (Op.eqItems (d + 3) 29 9 A A is).run Yba.prog w = .ok true w
  | [], w, _ => by simp [Op.eqItems]
  | i :: is, w, h => by
    have hp : ∀ w, (part 29 A (i * 9)).run Yba.prog w = .ok (.agg (nineOf (fun p => T (i * 9 + p)))) w := fun w => by
      rw [← extract9 A T hA hs i (h i (by simp))]
      simp [part, Yba.isAgg29, Yba.sizeOf29]
    simp [Op.eqItems, hp, refl29, items_refl d A T hA hs is w (fun j hj => h j (by simp [hj]))]

theorem refl30 (d : Nat) (A : Array Value) (T : Nat → Int) (hA : ∀ p, p < 144 → A[p]? = some (.int .u64 (T p))) (hs : A.size = 144) (w : World) : (Op.equalIn (d + 4) 30 (.agg A) (.agg A)).run Yba.prog w = .ok true w := by
  obtain ⟨i, hi⟩ := some_of_map Yba.info29
  rw [run_equalIn_array w (d + 3) _ _ Yba.underlying30 hi, Yba.cells29]
  exact items_refl d A T hA hs _ w (fun i hi => by simpa using hi)

/-- A whole value laid into the block that was laid last. -/
theorem wpList_store_new {P : Program} (W : World) {ops : Array Oper} {rest : List Oper} {o : Oper} {a : Act} {Q : Exit → Act → World → Prop} (hgd : o.guard = none) (ty : TypeId) (p x : Operand) (ho : o.op = .store ty p x) (hd : o.dst = none)
    (old new : Array Value) (g : Nat) (hgw : g = W.heap.size) (hp : a.eval p = .pointer (some ⟨g, 0, none⟩)) (hx : a.eval x = .agg new) (hsz : (P.info? ty).map (·.size) = some new.size) (hos : old.size = new.size) (h1 : new.all (·.oneCell') = true)
    (h : wpList P ops Q rest a (W.alloc (.cells new ty))) : wpList P ops Q (o :: rest) a (W.alloc (.cells old ty)) := by
  refine wpList_plain hgd fun K hK => ?_
  subst hgw
  have hrun := run_storeAt_new (P := P) W ty old new hsz hos h1
  unfold Oper.wp
  simp [execOp, ho, hp, hx, hrun, Oper.upon, hd, Act.put]
  exact hK _ _ h

end Go.Proofs.Ybulkdhzy
