import Derived.Test.YbulkdiccChecked
import Derived.Test.YbulkdiccPlain
import Derived.WalkKit
import Derived.OwnWalk
import Derived.Laws.OwnMore
import Derived.Laws.StructEq
import Derived.Maps.AppendAt
import Derived.Below
namespace Go.Proofs.Ybulkdicc
open Go.RowKit
set_option linter.unusedVariables false

/-- The operator of the law's own, boxed. -/
abbrev opV (z : Int) : Value := .iface 46 (.agg #[.int .i64 z])
def spC (k : Sp Int) : List Value := [.int .i64 k.s, .int .i64 k.e, opV k.o]
def maC (m : Nat × Nat) : List Value := [.int .i64 m.1, .int .i64 m.2]
def spV (k : Sp Int) : Value := .agg #[.int .i64 k.s, .int .i64 k.e, opV k.o]
def maV (m : Nat × Nat) : Value := .agg #[.int .i64 m.1, .int .i64 m.2]

/-- A row of spans. -/
def SRow (w : World) (B : Nat) (v : Value) (K : List (Sp Int)) : Prop := w.ownsRow B 50 3 v K.length (K.flatMap spC)
/-- A row of matches. -/
def MRow (w : World) (B : Nat) (v : Value) (F : List (Nat × Nat)) : Prop := w.ownsRow B 53 2 v F.length (F.flatMap maC)

theorem flat_at {α : Type} (f : α → List Value) (k : Nat) (hf : ∀ x, (f x).length = k) : ∀ (L : List α) (i j : Nat) (hi : i < L.length), j < k → (L.flatMap f)[i * k + j]? = (f L[i])[j]?
  | [], i, j, hi, _ => by simp at hi
  | x :: L, 0, j, hi, hj => by
    rw [List.flatMap_cons, List.getElem?_append_left (by rw [hf]; omega)]
    simp
  | x :: L, i + 1, j, hi, hj => by
    rw [List.flatMap_cons, List.getElem?_append_right (by rw [hf, Nat.succ_mul]; omega), hf, show (i + 1) * k + j - k = i * k + j by rw [Nat.succ_mul]; omega]
    rw [flat_at f k hf L i j (by simpa using hi) hj]
    simp

theorem flat_len {α : Type} (f : α → List Value) (k : Nat) (hf : ∀ x, (f x).length = k) : ∀ L : List α, (L.flatMap f).length = L.length * k
  | [] => by simp
  | x :: L => by rw [List.flatMap_cons, List.length_append, hf, flat_len f k hf L, List.length_cons, Nat.succ_mul]; omega

theorem flat_drop {α : Type} (f : α → List Value) (k : Nat) (hf : ∀ x, (f x).length = k) : ∀ (L : List α) (i : Nat), (L.drop i).flatMap f = (L.flatMap f).drop (i * k)
  | L, 0 => by simp
  | [], i + 1 => by simp
  | x :: L, i + 1 => by
    have h1 : (f x).drop ((i + 1) * k) = [] := List.drop_of_length_le (by rw [hf, Nat.succ_mul]; omega)
    have h2 : (i + 1) * k - k = i * k := by rw [Nat.succ_mul]; omega
    rw [List.drop_succ_cons, flat_drop f k hf L i, List.flatMap_cons, List.drop_append, h1, hf, List.nil_append, h2]

theorem spC_len (k : Sp Int) : (spC k).length = 3 := rfl
theorem maC_len (m : Nat × Nat) : (maC m).length = 2 := rfl
theorem spC_one (L : List (Sp Int)) : ∀ u ∈ L.flatMap spC, u.oneCell' = true := by
  intro u hu
  obtain ⟨k, _, hk⟩ := List.mem_flatMap.1 hu
  simp only [spC, List.mem_cons, List.not_mem_nil, or_false] at hk
  rcases hk with rfl | rfl | rfl <;> rfl
theorem maC_one (L : List (Nat × Nat)) : ∀ u ∈ L.flatMap maC, u.oneCell' = true := by
  intro u hu
  obtain ⟨k, _, hk⟩ := List.mem_flatMap.1 hu
  simp only [maC, List.mem_cons, List.not_mem_nil, or_false] at hk
  rcases hk with rfl | rfl <;> rfl

theorem owns_form {w : World} {B : Nat} {e : TypeId} {s : Nat} {v : Value} {n : Nat} {xs : List Value} (h : w.ownsRow B e s v n xs) : ∃ a c, v = .slice a n c ∧ (a = none → n = 0 ∧ c = 0) ∧ n ≤ c ∧ ∀ j, j < n * s → ∃ g, a = some ⟨g, 0, none⟩ ∧ w.cell? ⟨g, j, none⟩ = xs[j]? := by
  rcases h.2 with ⟨rfl, rfl⟩ | ⟨g, cap, cur, rfl, hb, hg, hnc, hcm, hcs, htake⟩
  · exact ⟨none, 0, rfl, fun _ => ⟨rfl, rfl⟩, Nat.le_refl _, fun j hj => by simp at hj⟩
  · exact ⟨_, cap, rfl, (fun e => by cases e), hnc, fun j hj => ⟨g, rfl, h.cellAt j hj⟩⟩

/-- The spans of a row, at their cells. -/
structure SAt (w : World) (a : Option Addr) (K : List (Sp Int)) : Prop where
  at_ : ∀ i (hi : i < K.length), ∃ g, a = some ⟨g, 0, none⟩ ∧ w.cell? ⟨g, i * 3, none⟩ = some (.int .i64 (K[i]).s) ∧ w.cell? ⟨g, i * 3 + 1, none⟩ = some (.int .i64 (K[i]).e) ∧ w.cell? ⟨g, i * 3 + 2, none⟩ = some (opV (K[i]).o)
structure MAt (w : World) (a : Option Addr) (F : List (Nat × Nat)) : Prop where
  at_ : ∀ i (hi : i < F.length), ∃ g, a = some ⟨g, 0, none⟩ ∧ w.cell? ⟨g, i * 2, none⟩ = some (.int .i64 (F[i]).1) ∧ w.cell? ⟨g, i * 2 + 1, none⟩ = some (.int .i64 (F[i]).2)

theorem SRow.form {w : World} {B : Nat} {v : Value} {K : List (Sp Int)} (h : SRow w B v K) : ∃ a c, v = .slice a K.length c ∧ K.length ≤ c ∧ SAt w a K := by
  obtain ⟨a, c, hv, _, hc, hx⟩ := owns_form h
  refine ⟨a, c, hv, hc, ⟨fun i hi => ?_⟩⟩
  obtain ⟨g, hg, h0⟩ := hx (i * 3) (by omega)
  obtain ⟨g1, hg1, h1⟩ := hx (i * 3 + 1) (by omega)
  obtain ⟨g2, hg2, h2⟩ := hx (i * 3 + 2) (by omega)
  obtain rfl : g = g1 := by rw [hg] at hg1; cases hg1; rfl
  obtain rfl : g = g2 := by rw [hg] at hg2; cases hg2; rfl
  have e0 := flat_at spC 3 spC_len K i 0 hi (by omega)
  have e1 := flat_at spC 3 spC_len K i 1 hi (by omega)
  have e2 := flat_at spC 3 spC_len K i 2 hi (by omega)
  exact ⟨g, hg, h0.trans e0, h1.trans e1, h2.trans e2⟩

theorem MRow.form {w : World} {B : Nat} {v : Value} {F : List (Nat × Nat)} (h : MRow w B v F) : ∃ a c, v = .slice a F.length c ∧ F.length ≤ c ∧ MAt w a F := by
  obtain ⟨a, c, hv, _, hc, hx⟩ := owns_form h
  refine ⟨a, c, hv, hc, ⟨fun i hi => ?_⟩⟩
  obtain ⟨g, hg, h0⟩ := hx (i * 2) (by omega)
  obtain ⟨g1, hg1, h1⟩ := hx (i * 2 + 1) (by omega)
  obtain rfl : g = g1 := by rw [hg] at hg1; cases hg1; rfl
  have e0 := flat_at maC 2 maC_len F i 0 hi (by omega)
  have e1 := flat_at maC 2 maC_len F i 1 hi (by omega)
  exact ⟨g, hg, h0.trans e0, h1.trans e1⟩

theorem SAt.same {w w' : World} {a : Option Addr} {K : List (Sp Int)} (h : SAt w a K) (hb : Below w.heap.size w w') : SAt w' a K :=
  ⟨fun i hi => by
    obtain ⟨g, hg, h0, h1, h2⟩ := h.at_ i hi
    have hc : ∀ (x : Addr) (v : Value), w.cell? x = some v → w'.cell? x = some v := fun x v hx => (hb.cell (World.block_lt_of_cell? w _ hx)).trans hx
    exact ⟨g, hg, hc _ _ h0, hc _ _ h1, hc _ _ h2⟩⟩
theorem MAt.same {w w' : World} {a : Option Addr} {F : List (Nat × Nat)} (h : MAt w a F) (hb : Below w.heap.size w w') : MAt w' a F :=
  ⟨fun i hi => by
    obtain ⟨g, hg, h0, h1⟩ := h.at_ i hi
    have hc : ∀ (x : Addr) (v : Value), w.cell? x = some v → w'.cell? x = some v := fun x v hx => (hb.cell (World.block_lt_of_cell? w _ hx)).trans hx
    exact ⟨g, hg, hc _ _ h0, hc _ _ h1⟩⟩

theorem owns_below {w w' : World} {B : Nat} {e : TypeId} {s : Nat} {v : Value} {n : Nat} {xs : List Value} (h : w.ownsRow B e s v n xs) (hb : Below w.heap.size w w') : w'.ownsRow B e s v n xs := by
  refine ⟨h.1, ?_⟩
  rcases h.2 with h0 | ⟨g, cap, cur, hv, hB, hg, rest⟩
  · exact .inl h0
  · exact .inr ⟨g, cap, cur, hv, hB, (hb.block g (Array.getElem?_eq_some_iff.1 hg).1).trans hg, rest⟩

theorem owns_lower {w : World} {B B' : Nat} {e : TypeId} {s : Nat} {v : Value} {n : Nat} {xs : List Value} (h : w.ownsRow B e s v n xs) (hb : B' ≤ B) : w.ownsRow B' e s v n xs := by
  refine ⟨h.1, ?_⟩
  rcases h.2 with h0 | ⟨g, cap, cur, hv, hB, hg, rest⟩
  · exact .inl h0
  · exact .inr ⟨g, cap, cur, hv, by omega, hg, rest⟩

end Go.Proofs.Ybulkdicc
