import Derived.Test.YbulkdibaFind
import Derived.Maps.AppendAt
namespace Go.Proofs.Ybulkdiba
open Go.RowKit Go.Maps
set_option linter.unusedVariables false

theorem Yba.info5 : (Yba.prog.info? 5).map (fun i => (i.zero, i.size, i.bytes)) = some (some (.int .u8 0), 1, 1) := by kernel_rfl
theorem Yba.info48 : (Yba.prog.info? 48).map (fun i => (i.zero, i.size, i.bytes)) = some (some (.pointer none), 1, 8) := by kernel_rfl
theorem Yba.info39 : (Yba.prog.info? 39).map (fun i => (i.zero, i.size, i.bytes)) = some (some (.pointer none), 1, 8) := by kernel_rfl

/-- A record of the law's own model, cell by cell. -/
def RecAt (w : World) (R : Nat) (addr : ByteArray) (wp : Option Nat) (kv pv : Value) (dig : Nat → Int) (gone : Bool) : Prop :=
  ∃ cs, w.heap[R]? = some (.cells cs 47 (0, 0)) ∧ cs.size = 25 ∧ cs[0]? = some (.string addr) ∧ cs[1]? = some (ptrO wp) ∧ cs[2]? = some kv ∧ cs[3]? = some pv ∧
    (∀ i, i < 20 → cs[4 + i]? = some (.int .u8 (dig i))) ∧ cs[24]? = some (.bool gone)

def KeyRow (w : World) (kv : Value) (L : List (Nat × Nat)) : Prop := w.ownsRow 0 5 1 kv L.length (L.map fun x => Value.int .u8 x.1)
def PtrRow (w : World) (pv : Value) (L : List (Nat × Nat)) : Prop := w.ownsRow 0 48 1 pv L.length (L.map fun x => ptr x.2)

/-- Nothing but the blocks of S has turned; new blocks may have come. -/
structure Fr (S : Nat → Prop) (w w' : World) : Prop where
  os : w'.os = w.os
  tape : w'.tape = w.tape
  output : w'.output = w.output
  size : w.heap.size ≤ w'.heap.size
  block : ∀ b, b < w.heap.size → ¬ S b → w'.heap[b]? = w.heap[b]?

theorem Fr.refl (S : Nat → Prop) (w : World) : Fr S w w := ⟨rfl, rfl, rfl, Nat.le_refl _, fun _ _ _ => rfl⟩
theorem Fr.trans {S : Nat → Prop} {a b c : World} (h : Fr S a b) (k : Fr S b c) : Fr S a c :=
  ⟨k.os.trans h.os, k.tape.trans h.tape, k.output.trans h.output, Nat.le_trans h.size k.size, fun i hi hs => (k.block i (Nat.lt_of_lt_of_le hi h.size) hs).trans (h.block i hi hs)⟩
theorem Fr.mono {S T : Nat → Prop} {a b : World} (h : Fr S a b) (hST : ∀ i, i < a.heap.size → S i → T i) : Fr T a b :=
  ⟨h.os, h.tape, h.output, h.size, fun i hi hs => h.block i hi (fun hS => hs (hST i hi hS))⟩
theorem Fr.of_grown {a b : World} {r : Option Nat} (h : a.grownBy b r) : Fr (fun i => r = some i) a b :=
  ⟨h.os, h.tape, h.output, h.size, fun i hi hs => h.block i hi (fun e => hs e.symm)⟩
theorem Fr.of_below {a b : World} (h : Below a.heap.size a b) (S : Nat → Prop) : Fr S a b := ⟨h.os, h.tape, h.output, h.size, fun i hi _ => h.block i hi⟩
theorem Fr.drew {S : Nat → Prop} {a b : World} (h : Fr S a b) : Fr S a b.drew := ⟨h.os, h.tape, h.output, h.size, h.block⟩
theorem Fr.alloc {S : Nat → Prop} {a b : World} (h : Fr S a b) (o : Obj) : Fr S a (b.alloc o) :=
  h.trans ⟨rfl, rfl, rfl, by simp, fun i hi _ => Below.heap_alloc _ _ _ hi⟩
theorem Fr.below {S : Nat → Prop} {a b : World} (h : Fr S a b) {B : Nat} (hB : B ≤ a.heap.size) (hS : ∀ i, S i → B ≤ i) : Below B a b :=
  ⟨h.os, h.tape, h.output, h.size, fun i hi => h.block i (by omega) (fun hs => by have := hS i hs; omega)⟩
theorem Fr.set {w : World} {b o : Nat} (v : Value) : Fr (fun i => i = b) w (w.setCell ⟨b, o, none⟩ v) :=
  ⟨rfl, rfl, rfl, by simp [World.setCell], fun k _ hne => heap_setCell_other w _ k v (by exact hne)⟩

theorem RecAt.lt {w : World} {R : Nat} {addr : ByteArray} {wp : Option Nat} {kv pv : Value} {dig : Nat → Int} {gone : Bool} (h : RecAt w R addr wp kv pv dig gone) : R < w.heap.size := by
  obtain ⟨cs, h, _⟩ := h; exact (Array.getElem?_eq_some_iff.1 h).1

theorem RecAt.same {w w' : World} {R : Nat} {addr : ByteArray} {wp : Option Nat} {kv pv : Value} {dig : Nat → Int} {gone : Bool} (h : RecAt w R addr wp kv pv dig gone) (hb : w'.heap[R]? = w.heap[R]?) : RecAt w' R addr wp kv pv dig gone := by
  obtain ⟨cs, h, r⟩ := h; exact ⟨cs, hb.trans h, r⟩

theorem owns_same {w w' : World} {B : Nat} {e : TypeId} {v : Value} {n : Nat} {xs : List Value} (h : w.ownsRow B e 1 v n xs) (hb : ∀ b, v.ownBlock = some b → w'.heap[b]? = w.heap[b]?) : w'.ownsRow B e 1 v n xs := by
  refine ⟨h.1, ?_⟩
  rcases h.2 with h0 | ⟨g, cap, cur, rfl, hB, hg, r⟩
  · exact .inl h0
  · exact .inr ⟨g, cap, cur, rfl, hB, (hb g rfl).trans hg, r⟩

theorem owns_type {w : World} {B : Nat} {e : TypeId} {v : Value} {n : Nat} {xs : List Value} (h : w.ownsRow B e 1 v n xs) {b : Nat} (hb : v.ownBlock = some b) : ∃ cs, w.heap[b]? = some (.cells cs e (0, 0)) := by
  rcases h.2 with ⟨rfl, _⟩ | ⟨g, cap, cur, rfl, hB, hg, r⟩
  · simp [Value.ownBlock] at hb
  · simp [Value.ownBlock] at hb; subst hb; exact ⟨cur, hg⟩

/-- The cells of a record, as the walk reads them. -/
theorem RecAt.cells {w : World} {R : Nat} {addr : ByteArray} {wp : Option Nat} {kv pv : Value} {dig : Nat → Int} {gone : Bool} (h : RecAt w R addr wp kv pv dig gone) :
    w.cell? ⟨R, 0, none⟩ = some (.string addr) ∧ w.cell? ⟨R, 1, none⟩ = some (ptrO wp) ∧ w.cell? ⟨R, 2, none⟩ = some kv ∧ w.cell? ⟨R, 3, none⟩ = some pv ∧ w.cell? ⟨R, 24, none⟩ = some (.bool gone) ∧ ∀ o, w.frozen? ⟨R, o, none⟩ = false := by
  obtain ⟨cs, h, hs, h0, h1, h2, h3, h4, h5⟩ := h
  refine ⟨?_, ?_, ?_, ?_, ?_, fun o => frozen_of_row w R o cs 47 h⟩
  all_goals rw [cell_of_row w R _ cs 47 (0, 0) h]; assumption

theorem RecAt.setKeys {w : World} {R : Nat} {addr : ByteArray} {wp : Option Nat} {kv pv : Value} {dig : Nat → Int} {gone : Bool} (h : RecAt w R addr wp kv pv dig gone) (v : Value) : RecAt (w.setCell ⟨R, 2, none⟩ v) R addr wp v pv dig gone := by
  obtain ⟨cs, h, hs, h0, h1, h2, h3, h4, h5⟩ := h
  refine ⟨_, heap_setCell_same w R 2 cs 47 v h, by simp [hs], ?_, ?_, ?_, ?_, ?_, ?_⟩
  · rw [Array.getElem?_setIfInBounds, if_neg (by omega)]; exact h0
  · rw [Array.getElem?_setIfInBounds, if_neg (by omega)]; exact h1
  · rw [Array.getElem?_setIfInBounds, if_pos rfl, if_pos (by omega)]
  · rw [Array.getElem?_setIfInBounds, if_neg (by omega)]; exact h3
  · intro i hi; rw [Array.getElem?_setIfInBounds, if_neg (by omega)]; exact h4 i hi
  · rw [Array.getElem?_setIfInBounds, if_neg (by omega)]; exact h5

theorem RecAt.setPtrs {w : World} {R : Nat} {addr : ByteArray} {wp : Option Nat} {kv pv : Value} {dig : Nat → Int} {gone : Bool} (h : RecAt w R addr wp kv pv dig gone) (v : Value) : RecAt (w.setCell ⟨R, 3, none⟩ v) R addr wp kv v dig gone := by
  obtain ⟨cs, h, hs, h0, h1, h2, h3, h4, h5⟩ := h
  refine ⟨_, heap_setCell_same w R 3 cs 47 v h, by simp [hs], ?_, ?_, ?_, ?_, ?_, ?_⟩
  · rw [Array.getElem?_setIfInBounds, if_neg (by omega)]; exact h0
  · rw [Array.getElem?_setIfInBounds, if_neg (by omega)]; exact h1
  · rw [Array.getElem?_setIfInBounds, if_neg (by omega)]; exact h2
  · rw [Array.getElem?_setIfInBounds, if_pos rfl, if_pos (by omega)]
  · intro i hi; rw [Array.getElem?_setIfInBounds, if_neg (by omega)]; exact h4 i hi
  · rw [Array.getElem?_setIfInBounds, if_neg (by omega)]; exact h5

theorem RecAt.setGone {w : World} {R : Nat} {addr : ByteArray} {wp : Option Nat} {kv pv : Value} {dig : Nat → Int} {gone : Bool} (h : RecAt w R addr wp kv pv dig gone) (v : Bool) : RecAt (w.setCell ⟨R, 24, none⟩ (.bool v)) R addr wp kv pv dig v := by
  obtain ⟨cs, h, hs, h0, h1, h2, h3, h4, h5⟩ := h
  refine ⟨_, heap_setCell_same w R 24 cs 47 _ h, by simp [hs], ?_, ?_, ?_, ?_, ?_, ?_⟩
  · rw [Array.getElem?_setIfInBounds, if_neg (by omega)]; exact h0
  · rw [Array.getElem?_setIfInBounds, if_neg (by omega)]; exact h1
  · rw [Array.getElem?_setIfInBounds, if_neg (by omega)]; exact h2
  · rw [Array.getElem?_setIfInBounds, if_neg (by omega)]; exact h3
  · intro i hi; rw [Array.getElem?_setIfInBounds, if_neg (by omega)]; exact h4 i hi
  · rw [Array.getElem?_setIfInBounds, if_pos rfl, if_pos (by omega)]

def Loc (w : World) (v v' : Value) : Prop := ∀ b, v'.ownBlock = some b → v.ownBlock = some b ∨ w.heap.size ≤ b

/-- What 'put' and 'del' leave of a record. -/
structure RecNew (w w' : World) (R : Nat) (addr : ByteArray) (wp : Option Nat) (kv pv : Value) (dig : Nat → Int) (gone : Bool) (L : List (Nat × Nat)) : Prop where
  ex : ∃ kv' pv', RecAt w' R addr wp kv' pv' dig gone ∧ KeyRow w' kv' L ∧ PtrRow w' pv' L ∧ Loc w kv kv' ∧ Loc w pv pv'
  fr : Fr (fun b => b = R ∨ kv.ownBlock = some b ∨ pv.ownBlock = some b) w w'

end Go.Proofs.Ybulkdiba
