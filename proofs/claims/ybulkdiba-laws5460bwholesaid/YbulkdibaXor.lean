import Derived.Test.YbulkdibaId
namespace Go.Proofs.Ybulkdiba
open Go.RowKit Go.Maps
set_option linter.unusedVariables false

def xr (a : Int) (n : Nat) : Int := bits .xor .u8 a (n : Int)

/-- The first j of the twenty bytes at off in block b are toggled; all else is as it was. -/
structure XorRel (w wr : World) (b t off : Nat) (cs : Array Value) (d : Nat → Int) (k gI j : Nat) : Prop where
  row : ∃ cs', wr.heap[b]? = some (.cells cs' t (0, 0)) ∧ cs'.size = cs.size ∧ (∀ i, i < 20 → cs'[off + i]? = some (.int .u8 (if i < j then xr (d i) (idb k i) else d i))) ∧ (∀ p, (p < off ∨ off + 20 ≤ p) → cs'[p]? = cs[p]?)
  idr : wr.heap[gI]? = some (.cells (idArr k) 49 (0, 0))
  grow : w.grownBy wr (some b)

theorem grown_drew {w wr : World} {r : Option Nat} (h : w.grownBy wr r) : w.grownBy wr.drew r := ⟨h.os, h.tape, h.output, h.size, h.block⟩
theorem grown_trans {a b c : World} {r : Option Nat} (h : a.grownBy b r) (k : b.grownBy c r) : a.grownBy c r :=
  ⟨k.os.trans h.os, k.tape.trans h.tape, k.output.trans h.output, Nat.le_trans h.size k.size, fun i hi hr => (k.block i (Nat.lt_of_lt_of_le hi h.size) hr).trans (h.block i hi hr)⟩
theorem grown_set {w : World} {b o : Nat} (v : Value) : w.grownBy (w.setCell ⟨b, o, none⟩ v) (some b) :=
  ⟨rfl, rfl, rfl, by simp [World.setCell], fun k _ hne => heap_setCell_other w _ k v (fun e => hne (by rw [e]))⟩

theorem XorRel.step {w wr : World} {b t off : Nat} {cs : Array Value} {d : Nat → Int} {k gI j : Nat} (h : XorRel w wr b t off cs d k gI j) (hs : off + 20 ≤ cs.size) (hj : j < 20) (hne : gI ≠ b) (v : Int) (hv : v = xr (d j) (idb k j)) :
    XorRel w (wr.drew.setCell ⟨b, off + j, none⟩ (.int .u8 v)) b t off cs d k gI (j + 1) := by
  obtain ⟨⟨cs', h1, h2, h3, h4⟩, h5, h6⟩ := h
  refine ⟨⟨cs'.setIfInBounds (off + j) (.int .u8 v), ?_, by simp [h2], ?_, ?_⟩, ?_, ?_⟩
  · exact heap_setCell_same wr.drew b (off + j) cs' t _ h1
  · intro i hi
    rw [Array.getElem?_setIfInBounds]
    by_cases e : i = j
    · subst e
      rw [if_pos rfl, if_pos (by omega), if_pos (by omega), hv]
    · rw [if_neg (by omega), h3 i hi]
      by_cases hij : i < j
      · rw [if_pos hij, if_pos (by omega)]
      · rw [if_neg hij, if_neg (by omega)]
  · intro p hp
    rw [Array.getElem?_setIfInBounds, if_neg (by omega)]
    exact h4 p hp
  · rw [heap_setCell_other _ _ _ _ (by exact hne)]; exact h5
  · exact grown_trans (grown_drew h6) (grown_set _)

theorem XorRel.cells {w wr : World} {b t off : Nat} {cs : Array Value} {d : Nat → Int} {k gI j : Nat} (h : XorRel w wr b t off cs d k gI j) (hj : j < 20) :
    wr.cell? ⟨b, off + j, none⟩ = some (.int .u8 (d j)) ∧ wr.frozen? ⟨b, off + j, none⟩ = false ∧ wr.cell? ⟨gI, j, none⟩ = some (.int .u8 (idb k j)) := by
  obtain ⟨⟨cs', h1, h2, h3, h4⟩, h5, h6⟩ := h
  refine ⟨?_, frozen_of_row wr b _ cs' t h1, ?_⟩
  · rw [cell_of_row wr b _ cs' t (0, 0) h1, h3 j hj, if_neg (by omega)]
  · rw [cell_of_row wr gI _ _ 49 (0, 0) h5, idArr_at k j hj]

/-- What a toggling call leaves. -/
def Toggled (w w' : World) (b t off : Nat) (cs : Array Value) (d : Nat → Int) (k : Nat) : Prop :=
  (∃ cs', w'.heap[b]? = some (.cells cs' t (0, 0)) ∧ cs'.size = cs.size ∧ (∀ i, i < 20 → cs'[off + i]? = some (.int .u8 (xr (d i) (idb k i)))) ∧ (∀ p, (p < off ∨ off + 20 ≤ p) → cs'[p]? = cs[p]?)) ∧ w.grownBy w' (some b)

theorem XorRel.done {w wr : World} {b t off : Nat} {cs : Array Value} {d : Nat → Int} {k gI : Nat} (h : XorRel w wr b t off cs d k gI 20) : Toggled w wr b t off cs d k := by
  obtain ⟨⟨cs', h1, h2, h3, h4⟩, h5, h6⟩ := h
  exact ⟨⟨cs', h1, h2, fun i hi => by rw [h3 i hi, if_pos hi], h4⟩, h6⟩

set_option maxHeartbeats 1000000 in
theorem toggle_any (b t off k : Nat) (cs : Array Value) (d : Nat → Int) (w : World) (hb : w.heap[b]? = some (.cells cs t (0, 0))) (hs : off + 20 ≤ cs.size) (hd : ∀ i, i < 20 → cs[off + i]? = some (.int .u8 (d i))) :
    Calls Yba.prog 10 #[.pointer (some ⟨b, off, none⟩), .agg (idArr k)] w fun e w' => e = .returned (.tuple #[]) ∧ Toggled w w' b t off cs d k := by
  have hbl : b < w.heap.size := (Array.getElem?_eq_some_iff.1 hb).1
  have hne : w.heap.size ≠ b := by omega
  go_enter Yba.func10, Yba.ntmps10
  go_wp2
  go_loopw [5] (fun i wr => ∃ j : Nat, j ≤ 20 ∧ i = .int .i64 j ∧ XorRel w wr b t off cs d k w.heap.size j) (fun i _ => 20 - (intOf i).toNat)
  case atStart => exact ⟨0, by omega, rfl, ⟨⟨cs, (Below.heap_alloc _ _ _ hbl).trans hb, rfl, fun i hi => by rw [hd i hi, if_neg (by omega)], fun _ _ => rfl⟩, heap_alloc_new _ _, World.grownBy_alloc _ _ _⟩⟩
  case round =>
    obtain ⟨j, hj, rfl, hx⟩ := hrel
    by_cases hlt : j < 20
    · obtain ⟨x1, x2, x3⟩ := hx.cells hlt
      clear hd hb
      go_wp2
      go_region
      all_goals go_wp2
      go_roundw
      case rel => exact ⟨j + 1, by omega, by go_num, hx.step hs hlt hne _ rfl⟩
      case measure => simp [intOf]; omega
    · go_wp2
      go_end0
      exact ⟨rfl, by have e : j = 20 := by omega
                     subst e; exact hx.done⟩

set_option maxHeartbeats 1000000 in
theorem xor_any (b t off k : Nat) (cs : Array Value) (d : Nat → Int) (w : World) (hk : k < 256) (hb : w.heap[b]? = some (.cells cs t (0, 0))) (hs : off + 20 ≤ cs.size) (hd : ∀ i, i < 20 → cs[off + i]? = some (.int .u8 (d i))) :
    Calls Yba.prog 8 #[.pointer (some ⟨b, off, none⟩), .int .u8 k] w fun e w' => e = .returned (.tuple #[]) ∧ Toggled w w' b t off cs d k := by
  have hbl : b < w.heap.size := (Array.getElem?_eq_some_iff.1 hb).1
  go_enter Yba.func8, Yba.ntmps8
  go_wp2_with fail
  refine (id_any k w hk).mono ?_
  rintro e w1 ⟨rfl, hb1⟩
  have hbl1 : b < w1.heap.size := Nat.lt_of_lt_of_le hbl hb1.size
  have hne : w1.heap.size ≠ b := by omega
  obtain ⟨Z, hZ, hz49⟩ : ∃ Z : Array Value, Z.size = 20 ∧ ∀ w, (zeroValue 49).run Yba.prog w = .ok (.agg Z) w := ⟨_, rfl, Yba.zeroValue49⟩
  go_wp2_with (refine wpList_store_row rfl 49 (.tmp 4) (.tmp 7) rfl rfl w1.heap.size 0 Z (idArr k) 49 rfl rfl (heap_alloc_new _ _) (by rw [size_idArr]; exact Yba.size49) (by rw [size_idArr, hZ]; omega) (idArr_one k) ?_; intro w2 h2 hg2 hs2)
  rw [spl_whole _ _ (by rw [hZ, size_idArr])] at h2
  have hg : w.grownBy w2 (some b) := ⟨hg2.os.trans hb1.os, hg2.tape.trans hb1.tape, hg2.output.trans hb1.output, by rw [hs2]; simp; have := hb1.size; omega,
    fun i hi hne' => by
      have h1 := hb1.size
      rw [hg2.block i (by simp; omega) (by simp; omega), Below.heap_alloc _ _ _ (by omega)]
      exact hb1.block i hi⟩
  have hbb : w2.heap[b]? = some (.cells cs t (0, 0)) := by
    have h1 := hb1.size
    rw [hg2.block b (by simp; omega) (by simp; omega), Below.heap_alloc _ _ _ (by omega), hb1.block b hbl]
    exact hb
  clear hg2 hs2 hb1
  go_wp2
  go_loopw [5] (fun i wr => ∃ j : Nat, j ≤ 20 ∧ i = .int .i64 j ∧ XorRel w wr b t off cs d k w1.heap.size j) (fun i _ => 20 - (intOf i).toNat)
  case atStart => exact ⟨0, by omega, rfl, ⟨⟨cs, hbb, rfl, fun i hi => by rw [hd i hi, if_neg (by omega)], fun _ _ => rfl⟩, h2, hg⟩⟩
  case round =>
    obtain ⟨j, hj, rfl, hx⟩ := hrel
    by_cases hlt : j < 20
    · obtain ⟨x1, x2, x3⟩ := hx.cells hlt
      clear hd hb h2 hg hbb
      go_wp2
      go_region
      all_goals go_wp2
      go_roundw
      case rel => exact ⟨j + 1, by omega, by go_num, hx.step hs hlt hne _ rfl⟩
      case measure => simp [intOf]; omega
    · go_wp2
      go_end0
      exact ⟨rfl, by have e : j = 20 := by omega
                     subst e; exact hx.done⟩

end Go.Proofs.Ybulkdiba
