import Derived.Test.YbulkdibaMap
namespace Go.Proofs.Ybulkdiba
open Go.RowKit Go.Maps
set_option linter.unusedVariables false

theorem Yba.laidOut : laidOutB Yba.prog = true := by kernel_rfl

/-- The i-th byte of the identifier that the law makes of k. -/
def idb (k i : Nat) : Nat := (k * (i + 1) + i) % 256
def idL (k : Nat) : List Value := (List.range 20).map fun i => Value.int .u8 (idb k i)
def idArr (k : Nat) : Array Value := (idL k).toArray

theorem id_keys : ((List.range 256).all fun k => (keyOf Yba.prog 49 (.agg (idArr k))).isSome) = true := by kernel_rfl

theorem law49 : Keyed Yba.prog 49 := Keyed.of_law (deep_law_laid Yba.laidOut (m := 2) (by omega) (of_decide_eq_true (by kernel_rfl)) (by kernel_rfl) (by kernel_rfl))
theorem law9 : Keyed Yba.prog 9 := string_keyed Yba.underlying9

theorem id_key (k : Nat) (h : k < 256) : ∃ l, keyOf Yba.prog 49 (.agg (idArr k)) = some l :=
  Option.isSome_iff_exists.1 (List.all_eq_true.1 id_keys k (by simpa using h))

theorem idArr_inj (a b : Nat) (ha : a < 256) (hb : b < 256) (h : idArr a = idArr b) : a = b := by
  have h0 : (idArr a)[0]? = (idArr b)[0]? := by rw [h]
  simp [idArr, idL, List.range, List.range.loop, idb] at h0
  omega

theorem idSet : KeySet Yba.prog 49 (fun k : Nat => k < 256) (fun k => Value.agg (idArr k)) :=
  ⟨law49, id_key, fun a b ha hb h => idArr_inj a b ha hb (by simpa using h)⟩

theorem strSet : KeySet Yba.prog 9 (fun s : ByteArray => s.size ≤ maxLen) Value.string :=
  ⟨law9, fun s h => ⟨_, Go.WideMaps.keyOf_string_mk Yba.underlying9 h⟩, fun a b _ _ h => by simpa using h⟩

/-- Block b is a map from identifiers to entries. -/
def MapI (w : World) (b : Nat) (L : List (Nat × Nat)) : Prop := MapG Yba.prog 49 (fun k : Nat => k < 256) (fun k => Value.agg (idArr k)) w b L
/-- Block b is a map from addresses to writers. -/
def MapS (w : World) (b : Nat) (L : List (ByteArray × Nat)) : Prop := MapG Yba.prog 9 (fun s : ByteArray => s.size ≤ maxLen) Value.string w b L

end Go.Proofs.Ybulkdiba
