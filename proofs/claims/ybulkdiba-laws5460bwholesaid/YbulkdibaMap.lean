import Derived.Test.YbulkdibaRows
import Derived.WalkKit
import Derived.ProofKit
import Derived.Maps.OwnSet
import Derived.DeepKeys4
namespace Go.Proofs.Ybulkdiba
open Go.RowKit Go.Maps
set_option linter.unusedVariables false

/-! ### Lists of pairs: what a map holds -/
section
variable {κ : Type} [DecidableEq κ]

def getL (k : κ) : List (κ × Nat) → Option Nat
  | [] => none
  | x :: l => if x.1 = k then some x.2 else getL k l

def putL (k : κ) (p : Nat) : List (κ × Nat) → List (κ × Nat)
  | [] => [(k, p)]
  | x :: l => if x.1 = k then (k, p) :: l else x :: putL k p l

def delL (k : κ) : List (κ × Nat) → List (κ × Nat)
  | [] => []
  | x :: l => if x.1 = k then l else x :: delL k l

theorem getL_put_same (k : κ) (p : Nat) : ∀ l, getL k (putL k p l) = some p
  | [] => by simp [putL, getL]
  | x :: l => by
    unfold putL
    split
    · simp [getL]
    · rename_i h; simp [getL, h, getL_put_same k p l]

theorem getL_put_other {k k' : κ} (h : k' ≠ k) (p : Nat) : ∀ l, getL k' (putL k p l) = getL k' l
  | [] => by simp [putL, getL, Ne.symm h]
  | x :: l => by
    unfold putL
    split
    · rename_i hx; simp only [getL]; rw [if_neg (Ne.symm h), if_neg (by rw [hx]; exact Ne.symm h)]
    · simp only [getL]; rw [getL_put_other h p l]

theorem getL_none_iff (k : κ) : ∀ l : List (κ × Nat), getL k l = none ↔ k ∉ l.map (·.1)
  | [] => by simp [getL]
  | x :: l => by
    simp only [getL, List.map_cons, List.mem_cons, not_or]
    by_cases h : x.1 = k
    · simp [h]
    · rw [if_neg h, getL_none_iff k l]
      exact ⟨fun hh => ⟨fun e => h e.symm, hh⟩, fun hh => hh.2⟩

theorem delL_sub (k : κ) : ∀ l : List (κ × Nat), ∀ x, x ∈ delL k l → x ∈ l
  | [], x, h => h
  | y :: l, x, h => by
    unfold delL at h
    split at h
    · exact List.mem_cons_of_mem _ h
    · rcases List.mem_cons.1 h with rfl | h
      · exact List.mem_cons_self ..
      · exact List.mem_cons_of_mem _ (delL_sub k l x h)

theorem delL_not (k : κ) : ∀ l : List (κ × Nat), (l.map (·.1)).Nodup → k ∉ (delL k l).map (·.1)
  | [], _ => by simp [delL]
  | y :: l, h => by
    simp only [List.map_cons, List.nodup_cons] at h
    unfold delL
    split
    · rename_i hy; rw [← hy]; exact h.1
    · rename_i hy
      simp only [List.map_cons, List.mem_cons, not_or]
      exact ⟨fun e => hy e.symm, delL_not k l h.2⟩

theorem getL_del_other {k k' : κ} (h : k' ≠ k) : ∀ l, getL k' (delL k l) = getL k' l
  | [] => rfl
  | x :: l => by
    unfold delL
    split
    · rename_i hx; simp only [getL]; rw [if_neg (by rw [hx]; exact Ne.symm h)]
    · simp only [getL]; rw [getL_del_other h l]

theorem delL_nodup (k : κ) : ∀ l : List (κ × Nat), (l.map (·.1)).Nodup → ((delL k l).map (·.1)).Nodup
  | [], _ => by simp [delL]
  | y :: l, h => by
    simp only [List.map_cons, List.nodup_cons] at h
    unfold delL
    split
    · exact h.2
    · simp only [List.map_cons, List.nodup_cons]
      refine ⟨fun hm => h.1 ?_, delL_nodup k l h.2⟩
      obtain ⟨x, hx, he⟩ := List.mem_map.1 hm
      exact List.mem_map.2 ⟨x, delL_sub k l x hx, he⟩

theorem mem_putL (k : κ) (p : Nat) : ∀ l : List (κ × Nat), ∀ a, a ∈ (putL k p l).map (·.1) ↔ a = k ∨ a ∈ l.map (·.1)
  | [], a => by simp [putL]
  | y :: l, a => by
    unfold putL
    split
    · rename_i hy; simp [hy]
    · rename_i hy
      simp only [List.map_cons, List.mem_cons, mem_putL k p l a]
      constructor
      · rintro (h | h | h)
        · exact .inr (.inl h)
        · exact .inl h
        · exact .inr (.inr h)
      · rintro (h | h | h)
        · exact .inr (.inl h)
        · exact .inl h
        · exact .inr (.inr h)

theorem putL_nodup (k : κ) (p : Nat) : ∀ l : List (κ × Nat), (l.map (·.1)).Nodup → ((putL k p l).map (·.1)).Nodup
  | [], _ => by simp [putL]
  | y :: l, h => by
    have h' := h
    simp only [List.map_cons, List.nodup_cons] at h
    unfold putL
    split
    · rename_i hy; simp only [List.map_cons, List.nodup_cons]; rw [← hy]; exact h
    · rename_i hy
      simp only [List.map_cons, List.nodup_cons]
      refine ⟨fun hm => ?_, putL_nodup k p l h.2⟩
      rcases (mem_putL k p l y.1).1 hm with e | e
      · exact hy e
      · exact h.1 e

theorem length_putL (k : κ) (p : Nat) : ∀ l : List (κ × Nat), (putL k p l).length = if k ∈ l.map (·.1) then l.length else l.length + 1
  | [] => by simp [putL]
  | y :: l => by
    unfold putL
    split
    · rename_i hy; simp [hy]
    · rename_i hy
      simp only [List.length_cons, length_putL k p l, List.map_cons, List.mem_cons]
      by_cases h : k ∈ l.map (·.1)
      · rw [if_pos h, if_pos (.inr h)]
      · rw [if_neg h, if_neg (fun e => e.elim (fun e => hy e.symm) h)]

theorem length_delL (k : κ) : ∀ l : List (κ × Nat), (delL k l).length + (if k ∈ l.map (·.1) then 1 else 0) = l.length
  | [] => by simp [delL]
  | y :: l => by
    unfold delL
    split
    · rename_i hy; simp [hy]
    · rename_i hy
      have ih := length_delL k l
      simp only [List.length_cons, List.map_cons, List.mem_cons]
      by_cases h : k ∈ l.map (·.1)
      · rw [if_pos h] at ih; rw [if_pos (.inr h)]; omega
      · rw [if_neg h] at ih; rw [if_neg (fun e => e.elim (fun e => hy e.symm) h)]; omega
end

/-! ### A map whose elements are pointers -/

/-- How a pointer that is an element reads: by its block. -/
def ptrElem : Value → Option (DataW Unit × List MemPlace)
  | .pointer none => some (.nil, [])
  | .pointer (some a) => if a = ⟨a.block, 0, none⟩ then some (.lit (.int .u64 a.block), []) else none
  | _ => none

def ptr (b : Nat) : Value := .pointer (some ⟨b, 0, none⟩)
def ptrO : Option Nat → Value
  | some b => ptr b
  | none => .pointer none
def ptrD : Option Nat → DataW Unit
  | some b => .lit (.int .u64 b)
  | none => .nil

theorem ptrElem_ptr (b : Nat) : ptrElem (ptr b) = some (.lit (.int .u64 b), []) := by simp [ptrElem, ptr]
theorem ptrElem_nil : ptrElem (.pointer none) = some (.nil, []) := rfl
theorem ptrElem_inv {v : Value} {o : Option Nat} {ps : List MemPlace} (h : ptrElem v = some (ptrD o, ps)) : v = ptrO o := by
  unfold ptrElem at h
  split at h
  · cases o with
    | none => rfl
    | some b => simp [ptrD] at h
  · rename_i a
    split at h
    · rename_i ha
      cases o with
      | none => simp [ptrD] at h
      | some b =>
        simp [ptrD] at h
        have e : a.block = b := by have := h.1; omega
        rw [ha]
        show Value.pointer (some ⟨a.block, 0, none⟩) = _
        rw [e]
        rfl
    · cases h
  · cases h

/-- A kind of keys: which are meant, and the value of each. -/
structure KeySet (P : Program) (K : TypeId) {κ : Type} (ok : κ → Prop) (val : κ → Value) : Prop where
  law : Keyed P K
  key : ∀ k, ok k → ∃ l, keyOf P K (val k) = some l
  inj : ∀ a b, ok a → ok b → val a = val b → a = b

theorem KeySet.lit_ne {P : Program} {K : TypeId} {κ : Type} {ok : κ → Prop} {val : κ → Value} (S : KeySet P K ok val) {a b : κ} (ha : ok a) (hb : ok b) (hne : a ≠ b) {la lb : Lit} (hla : keyOf P K (val a) = some la) (hlb : keyOf P K (val b) = some lb) : la ≠ lb :=
  fun e => hne (S.inj a b ha hb (S.law.inj hla (by rw [e]; exact hlb)))

/-- Block b is a map that holds just the pairs of L. -/
def MapG (P : Program) (K : TypeId) {κ : Type} [DecidableEq κ] (ok : κ → Prop) (val : κ → Value) (w : World) (b : Nat) (L : List (κ × Nat)) : Prop :=
  (L.map (·.1)).Nodup ∧ (∀ x ∈ L, ok x.1) ∧ ∃ D : DataW Unit, w.ownsMap P K ptrElem b L.length D ∧ Maps.size D = L.length ∧
    ∀ k l, ok k → keyOf P K (val k) = some l → Maps.has D l = decide (k ∈ L.map (·.1)) ∧ D.atKey l .nil = ptrD (getL k L)

section
variable {P : Program} {K : TypeId} {κ : Type} [DecidableEq κ] {ok : κ → Prop} {val : κ → Value} {w : World} {b : Nat} {L : List (κ × Nat)}

theorem MapG.made (w : World) : MapG P K ok val (w.alloc (.map #[] 0)) w.heap.size [] :=
  ⟨by simp, by simp, .map [], World.ownsMap_made w P K ptrElem, rfl, fun k l _ _ => by simp [Maps.has, DataW.atKey, getL, ptrD]⟩

theorem MapG.lt (h : MapG P K ok val w b L) : b < w.heap.size := by obtain ⟨_, _, D, hD, _⟩ := h; exact hD.lt

theorem MapG.same {w' : World} (h : MapG P K ok val w b L) (hb : w'.heap[b]? = w.heap[b]?) : MapG P K ok val w' b L := by
  obtain ⟨h1, h2, D, ⟨es, clock, hh, r⟩, h3⟩ := h
  exact ⟨h1, h2, D, ⟨es, clock, hb.trans hh, r⟩, h3⟩

theorem MapG.look {T E : TypeId} (S : KeySet P K ok val) (h : MapG P K ok val w b L) (ht : P.underlying T = some (.map K E)) (hz : (zeroValue E).run P w = .ok (.pointer none) w) {k : κ} (hk : ok k) :
    (Instr.lookup T (.map (some b)) (val k) false).run P w = .ok (ptrO (getL k L)) w := by
  obtain ⟨_, _, D, hD, _, hg⟩ := h
  obtain ⟨l, hl⟩ := S.key k hk
  obtain ⟨v, ps, hrun, hv⟩ := hD.lookup S.law ht hz ptrElem_nil hl
  rw [(hg k l hk hl).2] at hv
  rw [hrun, ptrElem_inv hv]

theorem MapG.look_ok {T E : TypeId} (S : KeySet P K ok val) (h : MapG P K ok val w b L) (ht : P.underlying T = some (.map K E)) (hz : (zeroValue E).run P w = .ok (.pointer none) w) {k : κ} (hk : ok k) :
    (Instr.lookup T (.map (some b)) (val k) true).run P w = .ok (.tuple #[ptrO (getL k L), .bool (decide (k ∈ L.map (·.1)))]) w := by
  obtain ⟨_, _, D, hD, _, hg⟩ := h
  obtain ⟨l, hl⟩ := S.key k hk
  obtain ⟨v, ps, hrun, hv⟩ := hD.look_ok S.law ht hz ptrElem_nil hl
  rw [(hg k l hk hl).2] at hv
  rw [hrun, ptrElem_inv hv, (hg k l hk hl).1]

theorem MapG.len {T E : TypeId} (h : MapG P K ok val w b L) (ht : P.underlying T = some (.map K E)) (ty : TypeId) : (Builtin.len_ #[T] ty #[.map (some b)]).run P w = .ok (.int .i64 L.length) w := by
  obtain ⟨_, _, D, hD, hs, _⟩ := h
  rw [hD.len ht ty, hs]

theorem ownsMap_size {n : Nat} {D : DataW Unit} (h : w.ownsMap P K ptrElem b n D) : w.ownsMap P K ptrElem b (Maps.size D) D := by
  obtain ⟨es, clock, hb, F, hs, hD⟩ := h
  exact ⟨es, clock, hb, F, by rw [hD]; simp [Maps.size, length_sorted], hD⟩

theorem MapG.store {T E : TypeId} (S : KeySet P K ok val) (h : MapG P K ok val w b L) (ht : P.underlying T = some (.map K E)) (hn : L.length < maxLen) {k : κ} (hk : ok k) (p : Nat) :
    ∃ w', (Instr.mapUpdate T (.map (some b)) (val k) (ptr p)).run P w = .ok () w' ∧ MapG P K ok val w' b (putL k p L) ∧ w.grownBy w' (some b) ∧ w'.heap.size = w.heap.size := by
  obtain ⟨h1, h2, D, hD, hs, hg⟩ := h
  obtain ⟨l, hl⟩ := S.key k hk
  obtain ⟨w', hrun, hown, hturn⟩ := hD.store S.law ht hn hl (ptrElem_ptr p)
  have hsz : Maps.size (D.put l (.lit (.int .u64 p))) = (putL k p L).length := by
    rw [Maps.size_put (hD.tidy S.law), (hg k l hk hl).1, hs, length_putL]
    by_cases hm : k ∈ L.map (·.1) <;> simp [hm]
  refine ⟨w', hrun, ⟨putL_nodup k p L h1, ?_, _, ?_, hsz, ?_⟩, hturn.grown, ?_⟩
  · intro x hx
    rcases (mem_putL k p L x.1).1 (List.mem_map.2 ⟨x, hx, rfl⟩) with e | e
    · rw [e]; exact hk
    · obtain ⟨y, hy, he⟩ := List.mem_map.1 e
      rw [← he]; exact h2 y hy
  · rw [← hsz]; exact ownsMap_size hown
  · intro k' l' hk' hl'
    by_cases e : k' = k
    · subst e
      obtain rfl : l' = l := Option.some.inj (hl'.symm.trans hl)
      refine ⟨?_, ?_⟩
      · rw [Maps.has_put_same hD.isMap (S.law.key hl)]
        symm; simp only [decide_eq_true_eq]; exact (mem_putL k' p L k').2 (.inl rfl)
      · rw [Maps.atKey_put_same hD.isMap (S.law.key hl), getL_put_same]; rfl
    · have hne : l' ≠ l := S.lit_ne hk' hk e hl' hl
      refine ⟨?_, ?_⟩
      · rw [Maps.has_put_other hne, (hg k' l' hk' hl').1]
        apply decide_eq_decide.2
        rw [mem_putL]
        exact ⟨.inr, fun h => h.resolve_left e⟩
      · rw [Maps.atKey_put_other hne, (hg k' l' hk' hl').2, getL_put_other e]
  · obtain ⟨es, clock, es', clock', hb, rfl⟩ := hturn
    simp [ChangeMaps.setBlock]

theorem MapG.drop {T E : TypeId} (S : KeySet P K ok val) (h : MapG P K ok val w b L) (ht : P.underlying T = some (.map K E)) {k : κ} (hk : ok k) (ty : TypeId) :
    ∃ w', (Builtin.delete_ #[T, K] ty #[.map (some b), val k]).run P w = .ok (.tuple #[]) w' ∧ MapG P K ok val w' b (delL k L) ∧ w.grownBy w' (some b) ∧ w'.heap.size = w.heap.size := by
  obtain ⟨h1, h2, D, hD, hs, hg⟩ := h
  obtain ⟨l, hl⟩ := S.key k hk
  obtain ⟨w', hrun, hown, hturn⟩ := hD.drop S.law ht hl ty
  have hsz : Maps.size (D.del l) = (delL k L).length := by
    have e1 := Maps.size_del (k := l) (hD.tidy S.law)
    rw [(hg k l hk hl).1, hs] at e1
    have e2 := length_delL k L
    by_cases hm : k ∈ L.map (·.1)
    · rw [if_pos hm] at e2; simp only [hm, decide_true, if_true] at e1; omega
    · rw [if_neg hm] at e2; simp only [hm, decide_false, Bool.false_eq_true, if_false] at e1; omega
  refine ⟨w', hrun, ⟨delL_nodup k L h1, fun x hx => h2 x (delL_sub k L x hx), _, ?_, hsz, ?_⟩, hturn.grown, ?_⟩
  · rw [← hsz]; exact ownsMap_size hown
  · intro k' l' hk' hl'
    by_cases e : k' = k
    · subst e
      obtain rfl : l' = l := Option.some.inj (hl'.symm.trans hl)
      refine ⟨?_, ?_⟩
      · rw [Maps.has_del_same]; symm; simp only [decide_eq_false_iff_not]; exact delL_not k' L h1
      · rw [Maps.atKey_del_same, (getL_none_iff k' _).2 (delL_not k' L h1)]; rfl
    · have hne : l' ≠ l := S.lit_ne hk' hk e hl' hl
      refine ⟨?_, ?_⟩
      · rw [Maps.has_del_other hne, (hg k' l' hk' hl').1]
        apply decide_eq_decide.2
        rw [← Decidable.not_iff_not, ← getL_none_iff, ← getL_none_iff, getL_del_other e]
      · rw [Maps.atKey_del_other hne, (hg k' l' hk' hl').2, getL_del_other e]
  · obtain ⟨es, clock, es', clock', hb, rfl⟩ := hturn
    simp [ChangeMaps.setBlock]
end

end Go.Proofs.Ybulkdiba
