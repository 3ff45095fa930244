import Derived.Test.YbulkdiccRow
namespace Go.Proofs.Ybulkdicc
open Go.RowKit
set_option linter.unusedVariables false
set_option linter.unusedSimpArgs false

theorem Yba.fields46 : (Yba.prog.fieldsOf 46).toList.map (fun f => (f.name, f.type, f.offset)) = [("id", 3, 0)] := by kernel_rfl
theorem Yba.fields50 : (Yba.prog.fieldsOf 50).toList.map (fun f => (f.name, f.type, f.offset)) = [("start", 3, 0), ("end", 3, 1), ("op", 48, 2)] := by kernel_rfl
theorem Yba.fields53 : (Yba.prog.fieldsOf 53).toList.map (fun f => (f.name, f.type, f.offset)) = [("Start", 3, 0), ("End", 3, 1)] := by kernel_rfl
theorem Yba.struct46 : Yba.prog.underlying 46 = some (.struct (Yba.prog.fieldsOf 46)) := by kernel_rfl
theorem Yba.struct50 : Yba.prog.underlying 50 = some (.struct (Yba.prog.fieldsOf 50)) := by kernel_rfl
theorem Yba.struct53 : Yba.prog.underlying 53 = some (.struct (Yba.prog.fieldsOf 53)) := by kernel_rfl
theorem Yba.held46 : Yba.prog.stoodInHeld 46 = false := by kernel_rfl
theorem Yba.held50 : Yba.prog.stoodInHeld 50 = false := by kernel_rfl
theorem Yba.held53 : Yba.prog.stoodInHeld 53 = false := by kernel_rfl
theorem Yba.isAgg3 (w : World) : (isAgg 3).run Yba.prog w = .ok false w := by kernel_rfl
theorem Yba.isAgg48 (w : World) : (isAgg 48).run Yba.prog w = .ok false w := by kernel_rfl
theorem Yba.comp46 : (Yba.prog.info? 46).map (·.comparable) = some true := by kernel_rfl

theorem len2 {α : Type} {l : List α} (h : l.length = 2) : ∃ a b, l = [a, b] := match l, h with | [a, b], _ => ⟨a, b, rfl⟩
theorem len3 {α : Type} {l : List α} (h : l.length = 3) : ∃ a b c, l = [a, b, c] := match l, h with | [a, b, c], _ => ⟨a, b, c, rfl⟩

/-- Two numbers of one struct, compared on the way. -/
theorem eqFields_cons {d : Nat} {xs : Array Value} {f : Field} {fs : List Field} {w : World} {v : Value} (hn : f.name ≠ "_") (hp : ∀ w, (part f.type xs f.offset).run Yba.prog w = .ok v w) (he : ∀ w, (Op.equalIn d f.type v v).run Yba.prog w = .ok true w) :
    (Op.eqFields d xs xs (f :: fs)).run Yba.prog w = (Op.eqFields d xs xs fs).run Yba.prog w := by
  simp [Op.eqFields, hn, hp, he]

theorem eq_int (d : Nat) (z : Int) (w : World) : (Op.equalIn (d + 1) 3 (.int .i64 z) (.int .i64 z)).run Yba.prog w = .ok true w := by
  rw [run_equalIn_int w d 3 .i64 .i64 z z Yba.underlying3]; simp

theorem eq_46 (d : Nat) (z : Int) (w : World) : (Op.equalIn (d + 2) 46 (.agg #[.int .i64 z]) (.agg #[.int .i64 z])).run Yba.prog w = .ok true w := by
  rw [run_equalIn_struct w (d + 1) 46 _ _ Yba.struct46 Yba.held46]
  have h := Yba.fields46
  generalize (Yba.prog.fieldsOf 46).toList = fs at h
  obtain ⟨f, rfl⟩ := List.length_eq_one_iff.1 (show fs.length = 1 by simpa using congrArg List.length h)
  · simp only [List.map_cons, List.map_nil, List.cons.injEq, Prod.mk.injEq, and_true] at h
    obtain ⟨h1, h2, h3⟩ := h
    rw [eqFields_cons (v := .int .i64 z) (by rw [h1]; decide) (fun w => by rw [h2, h3]; simp [part, Yba.isAgg3]) (fun w => by rw [h2]; exact eq_int d z w)]
    simp [Op.eqFields]

theorem eq_48 (d : Nat) (z : Int) (w : World) : (Op.equalIn (d + 3) 48 (opV z) (opV z)).run Yba.prog w = .ok true w := by
  obtain ⟨i, hi, hc⟩ := Option.map_eq_some_iff.1 Yba.comp46
  have h := fun w => eq_46 d z w
  rw [show d + 3 = (d + 2) + 1 from rfl]
  unfold opV Op.equalIn
  simp [run_underlying Yba.underlying48, typeInfo, hi, hc, h]

theorem eq_50 (d : Nat) (k : Sp Int) (w : World) : (Op.equalIn (d + 4) 50 (spV k) (spV k)).run Yba.prog w = .ok true w := by
  unfold spV
  rw [run_equalIn_struct w (d + 3) 50 _ _ Yba.struct50 Yba.held50]
  have h := Yba.fields50
  generalize (Yba.prog.fieldsOf 50).toList = fs at h
  obtain ⟨f, g, p, rfl⟩ := len3 (show fs.length = 3 by simpa using congrArg List.length h)
  · simp only [List.map_cons, List.map_nil, List.cons.injEq, Prod.mk.injEq, and_true] at h
    obtain ⟨⟨h1, h2, h3⟩, ⟨g1, g2, g3⟩, p1, p2, p3⟩ := h
    rw [eqFields_cons (v := .int .i64 k.s) (by rw [h1]; decide) (fun w => by rw [h2, h3]; simp [part, Yba.isAgg3]) (fun w => by rw [h2]; exact eq_int _ _ w),
      eqFields_cons (v := .int .i64 k.e) (by rw [g1]; decide) (fun w => by rw [g2, g3]; simp [part, Yba.isAgg3]) (fun w => by rw [g2]; exact eq_int _ _ w),
      eqFields_cons (v := opV k.o) (by rw [p1]; decide) (fun w => by rw [p2, p3]; simp [part, Yba.isAgg48]) (fun w => by rw [p2]; exact eq_48 _ _ w)]
    simp [Op.eqFields]

theorem eq_53 (d : Nat) (m : Nat × Nat) (w : World) : (Op.equalIn (d + 2) 53 (maV m) (maV m)).run Yba.prog w = .ok true w := by
  unfold maV
  rw [run_equalIn_struct w (d + 1) 53 _ _ Yba.struct53 Yba.held53]
  have h := Yba.fields53
  generalize (Yba.prog.fieldsOf 53).toList = fs at h
  obtain ⟨f, g, rfl⟩ := len2 (show fs.length = 2 by simpa using congrArg List.length h)
  · simp only [List.map_cons, List.map_nil, List.cons.injEq, Prod.mk.injEq, and_true] at h
    obtain ⟨⟨h1, h2, h3⟩, g1, g2, g3⟩ := h
    rw [eqFields_cons (v := .int .i64 m.1) (by rw [h1]; decide) (fun w => by rw [h2, h3]; simp [part, Yba.isAgg3]) (fun w => by rw [h2]; exact eq_int _ _ w),
      eqFields_cons (v := .int .i64 m.2) (by rw [g1]; decide) (fun w => by rw [g2, g3]; simp [part, Yba.isAgg3]) (fun w => by rw [g2]; exact eq_int _ _ w)]
    simp [Op.eqFields]

theorem neq_50 (k : Sp Int) (w : World) : (binOp .neq 50 (spV k) (spV k)).run Yba.prog w = .ok (.bool false) w := by
  have h := eq_50 9996 k
  unfold spV at h ⊢
  simp [binOp, Op.equal, Op.maxDepth, h]
theorem neq_53 (m : Nat × Nat) (w : World) : (binOp .neq 53 (maV m) (maV m)).run Yba.prog w = .ok (.bool false) w := by
  have h := eq_53 9998 m
  unfold maV at h ⊢
  simp [binOp, Op.equal, Op.maxDepth, h]

theorem guardIn_int (d : Nat) (z : Int) (w : World) : (Op.eqGuardIn (d + 1) 3 (.int .i64 z) (.int .i64 z)).run Yba.prog w = .ok false w := by
  unfold Op.eqGuardIn
  simp [run_underlying Yba.underlying3]
theorem guardIn_48 (d : Nat) (z : Int) (w : World) : (Op.eqGuardIn (d + 1) 48 (opV z) (opV z)).run Yba.prog w = .ok false w := by
  unfold Op.eqGuardIn opV
  simp [run_underlying Yba.underlying48]
theorem guardIn_50 (d : Nat) (k : Sp Int) (w : World) : (Op.eqGuardIn (d + 2) 50 (spV k) (spV k)).run Yba.prog w = .ok false w := by
  have h1 := fun z w => guardIn_int d z w
  have h2 := fun z w => guardIn_48 d z w
  rw [show d + 2 = (d + 1) + 1 from rfl]
  unfold Op.eqGuardIn spV
  simp [run_underlying Yba.underlying50, part, Yba.isAgg3, Yba.isAgg48, h1, h2]

theorem Yba.guard53 : Yba.prog.eqGuardType Yba.prog.depth 53 = false := by kernel_rfl

def eqS (u v : Value) : Prop := u = v ∧ ∃ k, u = spV k
def eqM (u v : Value) : Prop := u = v ∧ ∃ m, u = maV m

theorem exec_neq50 (ρ : Operand → Value) (dst : Option Tmp) (x y : Operand) (t ty' : TypeId) (pos : String) (after : Array Edge) (guard : Option (Nat × Bool)) (w : World) (h : eqS (ρ x) (ρ y)) :
    Sem.run Yba.prog (execOp ρ { dst := dst, op := Op.binOp BinOp.neq 50 x y ty', type := t, pos := pos, after := after, guard := guard }) w = .ok (.value (.bool false)) w := by
  obtain ⟨h1, k, h2⟩ := h
  have h3 : ρ y = spV k := by rw [← h1, h2]
  have hn := neq_50 k
  have hg := guardIn_50 9998 k
  unfold spV at h2 h3 hn hg
  simp only [Nat.reduceAdd] at hg
  simp only [execOp, h2, h3, eqGuard]
  simp [hn, hg, Op.maxDepth, Result.andThen]
theorem exec_neq53 (ρ : Operand → Value) (dst : Option Tmp) (x y : Operand) (t ty' : TypeId) (pos : String) (after : Array Edge) (guard : Option (Nat × Bool)) (w : World) (h : eqM (ρ x) (ρ y)) :
    Sem.run Yba.prog (execOp ρ { dst := dst, op := Op.binOp BinOp.neq 53 x y ty', type := t, pos := pos, after := after, guard := guard }) w = .ok (.value (.bool false)) w := by
  obtain ⟨h1, k, h2⟩ := h
  have h3 : ρ y = maV k := by rw [← h1, h2]
  have hn := neq_53 k
  unfold maV at h2 h3 hn
  simp [execOp, h2, h3, eqGuard, Yba.guard53, hn, Result.andThen]
theorem wp_neq50 (dst : Option Tmp) (x y : Operand) (t ty' : TypeId) (pos : String) (after : Array Edge) (guard : Option (Nat × Bool)) (a : Act) (w : World) (K : Act → World → Prop) (Q : Exit → Act → World → Prop) (h : eqS (a.eval x) (a.eval y)) :
    Oper.wp Yba.prog { dst := dst, op := Op.binOp BinOp.neq 50 x y ty', type := t, pos := pos, after := after, guard := guard } a w K Q = K (a.put dst (.bool false)) w := by
  unfold Oper.wp
  rw [exec_neq50 a.eval dst x y t ty' pos after guard w h]
  rfl
theorem wp_neq53 (dst : Option Tmp) (x y : Operand) (t ty' : TypeId) (pos : String) (after : Array Edge) (guard : Option (Nat × Bool)) (a : Act) (w : World) (K : Act → World → Prop) (Q : Exit → Act → World → Prop) (h : eqM (a.eval x) (a.eval y)) :
    Oper.wp Yba.prog { dst := dst, op := Op.binOp BinOp.neq 53 x y ty', type := t, pos := pos, after := after, guard := guard } a w K Q = K (a.put dst (.bool false)) w := by
  unfold Oper.wp
  rw [exec_neq53 a.eval dst x y t ty' pos after guard w h]
  rfl

end Go.Proofs.Ybulkdicc
