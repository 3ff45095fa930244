import Derived.Test.YbulkdibaRule
import Derived.Deep.DeepCutAuto
import Derived.Deep.RegionWith
import Derived.Deep.RegionLaw
import Derived.Deep.DrawnRows
namespace Go.Proofs.Ybulkdiba
open Go.RowKit Go.Maps
set_option linter.unusedVariables false

theorem str_ne {a b : ByteArray} (h : a ≠ b) : (a.toList == b.toList) = false := by
  rw [beq_eq_false_iff_ne]
  intro e
  exact h (by rw [ByteArray.toList_eq, ByteArray.toList_eq] at e; cases a; cases b; congr; exact Array.ext' (by simpa using e))

theorem cells_ne_map {w : World} {a b : Nat} {cs : Array Value} {t : TypeId} {L : List (Nat × Nat)} (ha : w.heap[a]? = some (.cells cs t (0, 0))) (hb : MapI w b L) : a ≠ b := by
  rintro rfl
  obtain ⟨_, _, D, ⟨es, clock, h, _⟩, _⟩ := hb
  rw [ha] at h; cases h
theorem cells_ne_mapS {w : World} {a b : Nat} {cs : Array Value} {t : TypeId} {L : List (ByteArray × Nat)} (ha : w.heap[a]? = some (.cells cs t (0, 0))) (hb : MapS w b L) : a ≠ b := by
  rintro rfl
  obtain ⟨_, _, D, ⟨es, clock, h, _⟩, _⟩ := hb
  rw [ha] at h; cases h
theorem types_ne {w : World} {a b : Nat} {cs ds : Array Value} {t u : TypeId} (ha : w.heap[a]? = some (.cells cs t (0, 0))) (hb : w.heap[b]? = some (.cells ds u (0, 0))) (h : t ≠ u) : a ≠ b := by
  rintro rfl
  rw [ha] at hb
  simp at hb
  exact h hb.2

/-- What the first half of 'attribute' leaves: the old writer, if there is one, has lost the entry; if nothing is left it is struck from the index. -/
def oldS (s : WrS) (k : Nat) : WrS := { s with d := xorD s.d k, L := delL k s.L }
def oldWL (old : Option WrS) (k : Nat) (eby : ByteArray) (WL : List (ByteArray × Nat)) : List (ByteArray × Nat) :=
  match old with
  | some s => if delL k s.L = [] then delL eby WL else WL
  | none => WL
def oldFr (old : Option WrS) (mW b : Nat) : Prop := b = mW ∨ ∃ s, old = some s ∧ (b = s.W ∨ b = s.M)

structure Half (I mE mW E k : Nat) (eby : ByteArray) (WL : List (ByteArray × Nat)) (old : Option WrS) (w wx : World) : Prop where
  idx : IdxAt wx I mE mW
  ent : EntAt wx E k eby
  map : MapS wx mW (oldWL old k eby WL)
  wr : ∀ s, old = some s → WrOk wx (oldS s k)
  fr : Fr (oldFr old mW) w wx

theorem Fr.undrewN {S : Nat → Prop} {a b : World} {n : Nat} (h : Fr S (a.drewN n) b) : Fr S a b := ⟨h.os, h.tape, h.output, h.size, h.block⟩
theorem Fr.undrew {S : Nat → Prop} {a b : World} (h : Fr S a.drew b) : Fr S a b := ⟨h.os, h.tape, h.output, h.size, h.block⟩
theorem Fr.drewN {S : Nat → Prop} {a b : World} (h : Fr S a b) (n : Nat) : Fr S a (b.drewN n) := ⟨h.os, h.tape, h.output, h.size, h.block⟩

/-- 'len(m)' at the operation. -/
theorem wpList_len_map {P : Program} (w : World) {ops : Array Oper} {rest : List Oper} {o : Oper} {a : Act} {Q : Exit → Act → World → Prop} {κ : Type} [DecidableEq κ] {ok : κ → Prop} {val : κ → Value} (hg : o.guard = none) (m : Operand) (t : TypeId)
    (hop : o.op = Op.call { callee := Callee.builtin Builtin.len, args := #[m], argTypes := #[t] }) (K E : TypeId) (ht : P.underlying t = some (.map K E)) (b : Nat) (L : List (κ × Nat)) (hm : a.eval m = .map (some b)) (h : MapG P K ok val w b L)
    (hK : wpList P ops Q rest (a.put o.dst (.int .i64 L.length)) w) : wpList P ops Q (o :: rest) a w := by
  refine wpList_plain hg fun K' hK' => ?_
  unfold Oper.wp
  simp [execOp, hop, resolve, invoke, builtin, hm, MapG.len h ht o.type, Result.andThen]
  exact hK' _ _ hK

attribute [local go_sem ↓] exec_load49 wp_load49 Go.wp_at_zero Go.wp_at_succ

def newS (s : WrS) (k E : Nat) : WrS := { s with d := xorD s.d k, L := putL k E s.L }
def attrFr (old new : Option WrS) (by_ : ByteArray) (mW E b : Nat) : Prop := oldFr old mW b ∨ b = E ∨ (by_.size ≠ 0 ∧ ∃ s, new = some s ∧ (b = s.W ∨ b = s.M))

/-- What 'attribute' leaves, where the entry's writer turns. -/
structure Attr (I mE mW E k : Nat) (eby by_ : ByteArray) (WL : List (ByteArray × Nat)) (old new : Option WrS) (w w' : World) : Prop where
  idx : IdxAt w' I mE mW
  ent : EntAt w' E k by_
  wr : ∀ s, old = some s → WrOk w' (oldS s k)
  fr : Fr (attrFr old new by_ mW E) w w'
  nob : by_.size = 0 → MapS w' mW (oldWL old k eby WL)
  had : by_.size ≠ 0 → ∀ s, new = some s → MapS w' mW (oldWL old k eby WL) ∧ WrOk w' (newS s k E)
  fresh : by_.size ≠ 0 → new = none → ∃ W' M', w.heap.size ≤ W' ∧ w.heap.size ≤ M' ∧ MapS w' mW (putL by_ W' (oldWL old k eby WL)) ∧ WrOk w' ⟨W', M', xorD (fun _ => 0) k, [(k, E)]⟩

theorem oldWL_len (old : Option WrS) (k : Nat) (eby : ByteArray) (WL : List (ByteArray × Nat)) : (oldWL old k eby WL).length ≤ WL.length := by
  unfold oldWL
  split
  · split
    · have := length_delL eby WL; omega
    · exact Nat.le_refl _
  · exact Nat.le_refl _
theorem oldWL_get (old : Option WrS) (k : Nat) {eby a : ByteArray} (h : a ≠ eby) (WL : List (ByteArray × Nat)) : getL a (oldWL old k eby WL) = getL a WL := by
  unfold oldWL
  split
  · split
    · exact getL_del_other h WL
    · rfl
  · rfl

theorem isEmpty_str (b : ByteArray) : b.toList.isEmpty = decide (b.size = 0) := by
  rw [ByteArray.toList_eq]; cases b with | mk d => simp only [Array.isEmpty_toList, ByteArray.size]; rfl

theorem WrOk.ne {w : World} {s : WrS} (h : WrOk w s) : s.W ≠ s.M := by obtain ⟨⟨cs, h, _⟩, hm⟩ := h; exact cells_ne_map h hm
theorem WrOk.neS {w : World} {s : WrS} {m : Nat} {L : List (ByteArray × Nat)} (h : WrOk w s) (hm : MapS w m L) : s.W ≠ m := by obtain ⟨⟨cs, h, _⟩, _⟩ := h; exact cells_ne_mapS h hm
theorem WrOk.neM {w : World} {s t : WrS} (h : WrOk w s) (hm : WrOk w t) : s.W ≠ t.M := by obtain ⟨⟨cs, h, _⟩, _⟩ := h; exact cells_ne_map h hm.2
theorem IdxAt.neW {w : World} {I mE mW : Nat} {s : WrS} (h : IdxAt w I mE mW) (k : WrOk w s) : I ≠ s.W ∧ I ≠ s.M := by
  obtain ⟨cs, h, _⟩ := h; obtain ⟨⟨cs', h', _⟩, hm⟩ := k; exact ⟨types_ne h h' (by decide), cells_ne_map h hm⟩
theorem EntAt.neW {w : World} {E k : Nat} {b : ByteArray} {s : WrS} (h : EntAt w E k b) (k : WrOk w s) : E ≠ s.W ∧ E ≠ s.M := by
  obtain ⟨cs, h, _⟩ := h; obtain ⟨⟨cs', h', _⟩, hm⟩ := k; exact ⟨types_ne h h' (by decide), cells_ne_map h hm⟩
theorem IdxAt.neS {w : World} {I mE mW m : Nat} {L : List (ByteArray × Nat)} (h : IdxAt w I mE mW) (k : MapS w m L) : I ≠ m := by obtain ⟨cs, h, _⟩ := h; exact cells_ne_mapS h k
theorem EntAt.neS {w : World} {E k m : Nat} {b : ByteArray} {L : List (ByteArray × Nat)} (h : EntAt w E k b) (k : MapS w m L) : E ≠ m := by obtain ⟨cs, h, _⟩ := h; exact cells_ne_mapS h k
theorem EntAt.neI {w : World} {E k I mE mW : Nat} {b : ByteArray} (h : EntAt w E k b) (k : IdxAt w I mE mW) : I ≠ E := by
  obtain ⟨cs, h, _⟩ := h; obtain ⟨cs', h', _⟩ := k; exact types_ne h' h (by decide)

/-- What turns a block that came later turns nothing. -/
theorem Fr.late {S : Nat → Prop} {a b c : World} {m : Nat} (h : Fr S a b) (k : Fr (fun i => i = m) b c) (hm : a.heap.size ≤ m) : Fr S a c :=
  ⟨k.os.trans h.os, k.tape.trans h.tape, k.output.trans h.output, Nat.le_trans h.size k.size, fun i hi hs => (k.block i (Nat.lt_of_lt_of_le hi h.size) (by omega)).trans (h.block i hi hs)⟩

theorem made_writer {w5 wA : World} (h : (w5.alloc (Obj.map #[] 0)).alloc (Obj.cells #[Value.map (some w5.heap.size), Value.int IntKind.u8 0, Value.int IntKind.u8 0, Value.int IntKind.u8 0, Value.int IntKind.u8 0, Value.int IntKind.u8 0, Value.int IntKind.u8 0, Value.int IntKind.u8 0, Value.int IntKind.u8 0, Value.int IntKind.u8 0, Value.int IntKind.u8 0, Value.int IntKind.u8 0, Value.int IntKind.u8 0, Value.int IntKind.u8 0, Value.int IntKind.u8 0, Value.int IntKind.u8 0, Value.int IntKind.u8 0, Value.int IntKind.u8 0, Value.int IntKind.u8 0, Value.int IntKind.u8 0, Value.int IntKind.u8 0] 44) = wA) :
    WrAt wA (w5.heap.size + 1) w5.heap.size (fun _ => 0) ∧ MapI wA w5.heap.size [] ∧ Fr (fun _ => False) w5 wA := by
  subst h
  refine ⟨⟨#[Value.map (some w5.heap.size), Value.int IntKind.u8 0, Value.int IntKind.u8 0, Value.int IntKind.u8 0, Value.int IntKind.u8 0, Value.int IntKind.u8 0, Value.int IntKind.u8 0, Value.int IntKind.u8 0, Value.int IntKind.u8 0, Value.int IntKind.u8 0, Value.int IntKind.u8 0, Value.int IntKind.u8 0, Value.int IntKind.u8 0, Value.int IntKind.u8 0, Value.int IntKind.u8 0, Value.int IntKind.u8 0, Value.int IntKind.u8 0, Value.int IntKind.u8 0, Value.int IntKind.u8 0, Value.int IntKind.u8 0, Value.int IntKind.u8 0], ?_, rfl, rfl, ?_⟩, ?_, ((Fr.refl _ _).alloc _).alloc _⟩
  · have := heap_alloc_new (w5.alloc (Obj.map #[] 0)) (Obj.cells #[Value.map (some w5.heap.size), Value.int IntKind.u8 0, Value.int IntKind.u8 0, Value.int IntKind.u8 0, Value.int IntKind.u8 0, Value.int IntKind.u8 0, Value.int IntKind.u8 0, Value.int IntKind.u8 0, Value.int IntKind.u8 0, Value.int IntKind.u8 0, Value.int IntKind.u8 0, Value.int IntKind.u8 0, Value.int IntKind.u8 0, Value.int IntKind.u8 0, Value.int IntKind.u8 0, Value.int IntKind.u8 0, Value.int IntKind.u8 0, Value.int IntKind.u8 0, Value.int IntKind.u8 0, Value.int IntKind.u8 0, Value.int IntKind.u8 0] 44)
    simpa using this
  · intro i hi
    match i, hi with
    | 0, _ => rfl
    | 1, _ => rfl
    | 2, _ => rfl
    | 3, _ => rfl
    | 4, _ => rfl
    | 5, _ => rfl
    | 6, _ => rfl
    | 7, _ => rfl
    | 8, _ => rfl
    | 9, _ => rfl
    | 10, _ => rfl
    | 11, _ => rfl
    | 12, _ => rfl
    | 13, _ => rfl
    | 14, _ => rfl
    | 15, _ => rfl
    | 16, _ => rfl
    | 17, _ => rfl
    | 18, _ => rfl
    | 19, _ => rfl
    | n + 20, h => exact absurd h (by omega)
  · exact MapG.same (MapG.made w5) (Below.heap_alloc _ _ _ (by simp))

/-- Behind 'e.by = by'. -/
structure Mid (I mE mW E k : Nat) (eby by_ : ByteArray) (WL : List (ByteArray × Nat)) (old new : Option WrS) (w wx : World) : Prop where
  idx : IdxAt wx I mE mW
  ent : EntAt wx E k by_
  map : MapS wx mW (oldWL old k eby WL)
  wr : ∀ s, old = some s → WrOk wx (oldS s k)
  nw : ∀ s, new = some s → WrOk wx s ∧ s.M ≠ mW ∧ s.L.length < maxLen ∧ ∀ t, old = some t → s.W ≠ t.W ∧ s.M ≠ t.M
  fr : Fr (attrFr old new by_ mW E) w wx

theorem Half.mid {I mE mW E k : Nat} {eby by_ : ByteArray} {WL : List (ByteArray × Nat)} {old new : Option WrS} {w wx : World} (h : Half I mE mW E k eby WL old w wx) (hW : MapS w mW WL) (hok : ∀ s, old = some s → WrOk w s ∧ s.M ≠ mW)
    (hnk : ∀ s, new = some s → WrOk w s ∧ s.M ≠ mW ∧ s.L.length < maxLen ∧ ∀ t, old = some t → s.W ≠ t.W ∧ s.M ≠ t.M) : Mid I mE mW E k eby by_ WL old new w (wx.setCell ⟨E, 30, none⟩ (.string by_)) := by
  have hf := Fr.set (w := wx) (b := E) (o := 30) (Value.string by_)
  have hnw : ∀ s, new = some s → WrOk wx s := by
    intro s hs
    obtain ⟨hks, hm, _, hd⟩ := hnk s hs
    refine hks.same (h.fr.block _ hks.1.lt ?_) (h.fr.block _ (by have := MapG.lt hks.2; exact this) ?_)
    · rintro (e | ⟨t, ht, e | e⟩)
      · exact hks.neS hW e
      · exact (hd t ht).1 e
      · exact hks.neM (hok t ht).1 e
    · rintro (e | ⟨t, ht, e | e⟩)
      · exact hm e
      · exact (hok t ht).1.neM hks e.symm
      · exact (hd t ht).2 e
  refine ⟨h.idx.same (hf.block _ h.idx.lt (h.ent.neI h.idx)), h.ent.setBy _, MapG.same h.map (hf.block _ (MapG.lt h.map) (Ne.symm (h.ent.neS h.map))), fun s hs => ?_, fun s hs => ?_, ?_⟩
  · have hk := h.wr s hs
    have hn := h.ent.neW hk
    exact hk.same (hf.block _ hk.1.lt (Ne.symm hn.1)) (hf.block _ (by have := MapG.lt hk.2; exact this) (Ne.symm hn.2))
  · have hk := hnw s hs
    have hn := h.ent.neW hk
    exact ⟨hk.same (hf.block _ hk.1.lt (Ne.symm hn.1)) (hf.block _ (by have := MapG.lt hk.2; exact this) (Ne.symm hn.2)), (hnk s hs).2⟩
  · exact (h.fr.mono (fun i _ hi => Or.inl hi)).trans (hf.mono (fun i _ hi => Or.inr (Or.inl hi)))

theorem Mid.nob {I mE mW E k : Nat} {eby by_ : ByteArray} {WL : List (ByteArray × Nat)} {old new : Option WrS} {w wx : World} (h : Mid I mE mW E k eby by_ WL old new w wx) (hb : by_.size = 0) : Attr I mE mW E k eby by_ WL old new w wx :=
  ⟨h.idx, h.ent, h.wr, h.fr, fun _ => h.map, fun hn => absurd hb hn, fun hn => absurd hb hn⟩

/-- The new writer was there. -/
theorem Mid.had {I mE mW E k : Nat} {eby by_ : ByteArray} {WL : List (ByteArray × Nat)} {old : Option WrS} {s : WrS} {w wx w6 w7 : World} (h : Mid I mE mW E k eby by_ WL old (some s) w wx) (hb : by_.size ≠ 0)
    (hM : MapI w6 s.M (putL k E s.L)) (hg : Fr (fun i => i = s.M) wx w6) (hT : WrAt w7 s.W s.M (xorD s.d k)) (hg7 : Fr (fun i => i = s.W) w6 w7) : Attr I mE mW E k eby by_ WL old (some s) w w7 := by
  obtain ⟨hks, hm, _, hd⟩ := h.nw s rfl
  have hf : Fr (fun i => i = s.W ∨ i = s.M) wx w7 := (hg.mono (fun i _ hi => Or.inr hi)).trans (hg7.mono (fun i _ hi => Or.inl hi))
  have hi := h.idx.neW hks
  have he := h.ent.neW hks
  have hMS : MapS w7 mW (oldWL old k eby WL) := MapG.same h.map (hf.block _ (MapG.lt h.map) (by rintro (e | e); exact hks.neS h.map e.symm; exact hm e.symm))
  have hM7 : MapI w7 s.M (putL k E s.L) := MapG.same hM (hg7.block _ (by have := MapG.lt hM; exact this) (Ne.symm hks.ne))
  refine ⟨h.idx.same (hf.block _ h.idx.lt (by rintro (e | e); exact hi.1 e; exact hi.2 e)), h.ent.same (hf.block _ h.ent.lt (by rintro (e | e); exact he.1 e; exact he.2 e)), fun t ht => ?_, ?_, fun h0 => absurd h0 hb, fun _ s' hs => ?_, fun _ hn => nomatch hn⟩
  · have hk := h.wr t ht
    refine hk.same (hf.block _ hk.1.lt ?_) (hf.block _ (by have := MapG.lt hk.2; exact this) ?_)
    · rintro (e | e)
      · exact (hd t ht).1 e.symm
      · exact hk.neM hks e
    · rintro (e | e)
      · exact hks.neM hk e.symm
      · exact (hd t ht).2 e.symm
  · exact h.fr.trans (hf.mono (fun i _ hi => Or.inr (Or.inr ⟨hb, s, rfl, hi⟩)))
  · cases hs
    exact ⟨hMS, hT, hM7⟩

/-- A new writer was made. -/
theorem Mid.fresh {I mE mW E k W' M' : Nat} {eby by_ : ByteArray} {WL : List (ByteArray × Nat)} {old : Option WrS} {w wx w7 : World} (h : Mid I mE mW E k eby by_ WL old none w wx) (hb : by_.size ≠ 0)
    (hW1 : w.heap.size ≤ W') (hM1 : w.heap.size ≤ M') (hS : MapS w7 mW (putL by_ W' (oldWL old k eby WL))) (hk : WrOk w7 ⟨W', M', xorD (fun _ => 0) k, [(k, E)]⟩) (hf : Fr (fun i => i = mW) wx w7) (hold : ∀ t, old = some t → t.M ≠ mW) : Attr I mE mW E k eby by_ WL old none w w7 := by
  refine ⟨h.idx.same (hf.block _ h.idx.lt (h.idx.neS h.map)), h.ent.same (hf.block _ h.ent.lt (h.ent.neS h.map)), fun t ht => ?_, h.fr.trans (hf.mono (fun i _ hi => Or.inl (Or.inl hi))), fun h0 => absurd h0 hb, (fun _ s' hs => nomatch hs), fun _ _ => ⟨W', M', hW1, hM1, hS, hk⟩⟩
  have hk := h.wr t ht
  exact hk.same (hf.block _ hk.1.lt (hk.neS h.map)) (hf.block _ (by have := MapG.lt hk.2; exact this) (hold t ht))

set_option maxHeartbeats 4000000 in
set_option maxRecDepth 100000 in
theorem attr_any (I mE mW E k : Nat) (eby by_ : ByteArray) (WL : List (ByteArray × Nat)) (old new : Option WrS) (w : World) (hk : k < 256) (he : eby.size ≤ maxLen) (hb : by_.size ≤ maxLen) (hne : eby ≠ by_) (hWL : WL.length < maxLen)
    (hI : IdxAt w I mE mW) (hE : EntAt w E k eby) (hW : MapS w mW WL) (hold : getL eby WL = old.map (·.W)) (hok : ∀ s, old = some s → WrOk w s ∧ s.M ≠ mW)
    (hnew : getL by_ WL = new.map (·.W)) (hnk : ∀ s, new = some s → WrOk w s ∧ s.M ≠ mW ∧ s.L.length < maxLen ∧ ∀ t, old = some t → s.W ≠ t.W ∧ s.M ≠ t.M) :
    Calls Yba.prog 9 #[ptr I, ptr E, .string by_] w fun e w' => e = .returned (.tuple #[]) ∧ Attr I mE mW E k eby by_ WL old new w w' := by
  have hWlt : mW < w.heap.size := MapG.lt hW
  obtain ⟨i0, i16⟩ := hI.cells
  obtain ⟨ec, e30, ef⟩ := hE.cells
  clear ec
  have hl := fun n => hW.lookAt he n
  rw [hold] at hl
  have hbe := str_ne hne
  simp only [ptr]
  go_enter Yba.func9, Yba.ntmps9
  go_upto_region 1 with fail
  have hbK : new = new := rfl
  rcases old with _ | s
  case' none =>
    simp only [Option.map_none, ptrO] at hl
    go_quiet (fail)
    go_upto_region 7 with fail
    have hH : Half I mE mW E k eby WL none w (w.drewN nq) := ⟨hI, hE, hW, (fun s hs => by cases hs), (Fr.refl _ _).drewN _⟩
    generalize (w.drewN nq) = wx at hH ⊢
    clear hl i0 i16 e30 ef hbe
    skip
  case' some =>
    obtain ⟨⟨hw1, hm1⟩, hMm⟩ := hok s rfl
    simp only [Option.map_some, ptrO, ptr] at hl
    have o1 : ∀ n, okV (w.drewN n) (.pointer (some ⟨E, 0, none⟩)) 20 = true := fun n => hE.rd.1
    have o2 : ∀ n, rdV (w.drewN n) (.pointer (some ⟨E, 0, none⟩)) 20 = idArr k := fun n => hE.rd.2
    have w0 := hw1.cell
    go_quiet (fail)
    go_upto_region 3 with fail
    obtain ⟨w2, hdel, hM2, hg2, hz2⟩ := MapG.drop (w := w.drewN (nq + 1)) idSet (MapG.same hm1 rfl) Yba.underlying28 hk 0
    go_region
    have hWM : s.W ≠ s.M := by obtain ⟨cs, h, _⟩ := hw1; exact cells_ne_map h hm1
    have hIM : I ≠ s.M := by obtain ⟨cs, h, _⟩ := hI; exact cells_ne_map h hm1
    have hEM : E ≠ s.M := by obtain ⟨cs, h, _⟩ := hE; exact cells_ne_map h hm1
    have hIW : I ≠ s.W := by obtain ⟨cs, h, _⟩ := hI; obtain ⟨cs', h', _⟩ := hw1; exact types_ne h h' (by decide)
    have hEW : E ≠ s.W := by obtain ⟨cs, h, _⟩ := hE; obtain ⟨cs', h', _⟩ := hw1; exact types_ne h h' (by decide)
    have hmWW : s.W ≠ mW := by obtain ⟨cs, h, _⟩ := hw1; exact cells_ne_mapS h hW
    have hmWI : I ≠ mW := by obtain ⟨cs, h, _⟩ := hI; exact cells_ne_mapS h hW
    have hmWE : E ≠ mW := by obtain ⟨cs, h, _⟩ := hE; exact cells_ne_mapS h hW
    have hw2 : WrAt w2 s.W s.M s.d := hw1.same (hg2.block _ (by exact hw1.lt) (by simpa using hWM))
    have hE2 : EntAt w2 E k eby := hE.same (hg2.block _ (by exact hE.lt) (by simpa using hEM))
    have hI2 : IdxAt w2 I mE mW := hI.same (hg2.block _ (by exact hI.lt) (by simpa using hIM))
    have hW2 : MapS w2 mW WL := MapG.same hW (hg2.block _ (by exact hWlt) (by simpa using Ne.symm hMm))
    have hf2 : Fr (oldFr (some s) mW) w w2 := Fr.undrewN ((Fr.of_grown hg2).mono (fun i _ hi => Or.inr ⟨s, rfl, Or.inr (by simpa using hi.symm)⟩))
    clear hdel hg2 o1 o2 w0 e30 ef i0 i16 hl hbe
    obtain ⟨i0, i16⟩ := hI2.cells
    obtain ⟨ec, e30, ef⟩ := hE2.cells
    clear ec
    have o1 : okV w2.drew (.pointer (some ⟨E, 0, none⟩)) 20 = true := hE2.rd.1
    have o2 : rdV w2.drew (.pointer (some ⟨E, 0, none⟩)) 20 = idArr k := hE2.rd.2
    have w0 := hw2.cell
    obtain ⟨cs2, k1, k2, k3, k4⟩ := hw2
    go_upto_region 4 with fail
    have htog := toggle_any s.W 44 1 k cs2 s.d w2.drew k1 (by omega) k4
    go_region_with (go_at_call 10; refine htog.mono ?_; rintro e w3 ⟨rfl, htg⟩)
    have hg3 := htg.2
    have hlt2 : w.heap.size ≤ w2.heap.size := hf2.size
    have hw3 : WrAt w3 s.W s.M (xorD s.d k) := WrAt.toggled k2 k3 htg
    have hE3 : EntAt w3 E k eby := hE2.same (hg3.block _ (by exact hE2.lt) (by simpa using hEW))
    have hI3 : IdxAt w3 I mE mW := hI2.same (hg3.block _ (by exact hI2.lt) (by simpa using hIW))
    have hW3 : MapS w3 mW WL := MapG.same hW2 (hg3.block _ (by exact Nat.lt_of_lt_of_le hWlt hlt2) (by simpa using Ne.symm hmWW))
    have hM3 : MapI w3 s.M (delL k s.L) := MapG.same hM2 (hg3.block _ (by have := MapG.lt hM2; exact this) (by simpa using Ne.symm hWM))
    have hf3 : Fr (oldFr (some s) mW) w w3 := hf2.trans (Fr.undrew ((Fr.of_grown hg3).mono (fun i _ hi => Or.inr ⟨s, rfl, Or.inl (by simpa using hi.symm)⟩)))
    clear htg hg3 hM2 hW2 hI2 hE2 hf2 o1 o2 w0 k1 k2 k3 k4 htog i0 i16 e30 ef
    obtain ⟨i0, i16⟩ := hI3.cells
    obtain ⟨ec, e30, ef⟩ := hE3.cells
    clear ec
    have w0 := hw3.cell
    by_cases hemp : delL k s.L = []
    case' pos =>
      have hzl : (((delL k s.L).length : Int) == 0) = true := by rw [hemp]; rfl
      go_upto_region 6 with (at_len; refine wpList_len_map _ rfl (.tmp 44) 28 rfl 49 48 Yba.underlying28 s.M _ rfl hM3 ?_)
      obtain ⟨w4, hdel, hW4, hg4, hz4⟩ := MapG.drop (w := w3.drew) strSet (MapG.same hW3 rfl) Yba.underlying29 he 0
      go_region
      have hlt3 : w.heap.size ≤ w3.heap.size := hf3.size
      have hH : Half I mE mW E k eby WL (some s) w w4 := by
        refine ⟨hI3.same (hg4.block _ (by exact hI3.lt) (by simpa using hmWI)), hE3.same (hg4.block _ (by exact hE3.lt) (by simpa using hmWE)), by unfold oldWL; simp only [hemp, if_pos]; exact hW4, fun s' hs => ?_, ?_⟩
        · cases hs
          have hq1 := hg4.block s.W (by exact hw3.lt) (by simpa using hmWW)
          have hq2 := hg4.block s.M (by have := MapG.lt hM3; exact this) (by simpa using hMm)
          exact ⟨hw3.same hq1, MapG.same hM3 hq2⟩
        · exact hf3.trans (Fr.undrew ((Fr.of_grown hg4).mono (fun i _ hi => Or.inl (by simpa using hi.symm))))
      clear hdel hW4 hg4 i0 i16 e30 ef w0
      go_upto_region 7 with fail
      generalize w4 = wx at hH ⊢
    case' neg =>
      have hzl : (((delL k s.L).length : Int) == 0) = false := by
        rw [beq_eq_false_iff_ne]; intro e; exact hemp (List.eq_nil_of_length_eq_zero (by omega))
      go_upto_region 7 with (at_len; refine wpList_len_map _ rfl (.tmp 44) 28 rfl 49 48 Yba.underlying28 s.M _ rfl hM3 ?_)
      have hH : Half I mE mW E k eby WL (some s) w w3 := ⟨hI3, hE3, by unfold oldWL; simpa [hemp] using hW3, (fun s' hs => by cases hs; exact ⟨hw3, hM3⟩), hf3⟩
      clear hI3 hE3 hW3 hM3 hf3 hw3 i0 i16 e30 ef w0
      generalize w3 = wx at hH ⊢
  all_goals
    have hm5 := hH.mid (by_ := by_) hW hok hnk
    obtain ⟨ec, e30, ef⟩ := hH.ent.cells
    clear ec
    have hof := fun t ht => (hok t ht).2
    clear hok hnk hH hI hE hW
    go_upto_region 8 with fail
    generalize (wx.setCell ⟨E, 30, none⟩ (.string by_)) = w5 at hm5 ⊢
    obtain ⟨i0, i16⟩ := hm5.idx.cells
    have hl := MapG.look strSet hm5.map Yba.underlying29 (zero41 _) hb
    rw [oldWL_get _ k (Ne.symm hne) WL, hnew] at hl
    clear ef e30
    by_cases hb0 : by_.size = 0
    · have hbe : by_.toList.isEmpty = true := by rw [isEmpty_str]; simpa using hb0
      go_wp2_with fail
      exact bodyPost_ret (v := .tuple #[]) (by simp [results, Yba.results9]) rfl ⟨rfl, hm5.nob hb0⟩
    · have hbe : by_.toList.isEmpty = false := by rw [isEmpty_str]; simpa using hb0
      rcases new with _ | s2
      · simp only [Option.map_none, ptrO] at hl
        have hmm := @run_makeMap Yba.prog
        go_upto_region 12 with fail
        generalize hA : (w5.alloc (Obj.map #[] 0)).alloc (Obj.cells #[Value.map (some w5.heap.size), Value.int IntKind.u8 0, Value.int IntKind.u8 0, Value.int IntKind.u8 0, Value.int IntKind.u8 0, Value.int IntKind.u8 0, Value.int IntKind.u8 0, Value.int IntKind.u8 0, Value.int IntKind.u8 0, Value.int IntKind.u8 0, Value.int IntKind.u8 0, Value.int IntKind.u8 0, Value.int IntKind.u8 0, Value.int IntKind.u8 0, Value.int IntKind.u8 0, Value.int IntKind.u8 0, Value.int IntKind.u8 0, Value.int IntKind.u8 0, Value.int IntKind.u8 0, Value.int IntKind.u8 0, Value.int IntKind.u8 0] 44) = wA
        obtain ⟨hWA, hMA, hfA⟩ := made_writer hA
        have hSA : MapS wA mW _ := MapG.same hm5.map (hfA.block _ (MapG.lt hm5.map) (fun h => h))
        have hIA := hm5.idx.same (hfA.block _ hm5.idx.lt (fun h => h))
        have hEA := hm5.ent.same (hfA.block _ hm5.ent.lt (fun h => h))
        have hm5lt := MapG.lt hm5.map
        have hElt := hm5.ent.lt
        clear hA i0 i16 hl
        have hfr5 := hm5.fr.size
        generalize hM0 : w5.heap.size = M' at hWA hMA hm5lt hElt hfr5 ⊢
        have hMlt : M' < wA.heap.size := MapG.lt hMA
        obtain ⟨i0, i16⟩ := hIA.cells
        obtain ⟨wB, hupB, hSB, hgB, hzB⟩ := MapG.store (w := wA) strSet hSA Yba.underlying29 (Nat.lt_of_le_of_lt (oldWL_len _ _ _ _) hWL) hb (M' + 1)
        simp only [ptr] at hupB
        go_upto_region 13 with fail
        have hWB : WrAt wB (M' + 1) M' (fun _ => 0) := hWA.same (hgB.block _ hWA.lt (by simp; omega))
        have hMB : MapI wB M' [] := MapG.same hMA (hgB.block _ (MapG.lt hMA) (by simp; omega))
        have hEB : EntAt wB E k by_ := hEA.same (hgB.block _ hEA.lt (by simpa using hEA.neS hSA))
        have hfB : Fr (fun i => i = mW) w5 wB := (hfA.mono (fun i _ hi => hi.elim)).trans ((Fr.of_grown hgB).mono (fun i _ hi => by simpa using hi.symm))
        clear i0 i16 hupB
        have o1 : okV wB.drew (.pointer (some ⟨E, 0, none⟩)) 20 = true := hEB.rd.1
        have o2 : rdV wB.drew (.pointer (some ⟨E, 0, none⟩)) 20 = idArr k := hEB.rd.2
        have w0 := hWB.cell
        obtain ⟨wC, hupC, hMC, hgC, hzC⟩ := MapG.store (w := wB.drew) idSet (MapG.same hMB rfl) Yba.underlying28 (by simp [maxLen]) hk E
        simp only [ptr] at hupC
        go_region
        have hWC : WrAt wC (M' + 1) M' (fun _ => 0) := hWB.same (hgC.block _ (by exact hWB.lt) (by simp))
        have hEC : EntAt wC E k by_ := hEB.same (hgC.block _ (by exact hEB.lt) (by simp; omega))
        have hSC : MapS wC mW _ := MapG.same hSB (hgC.block _ (by have := MapG.lt hSB; exact this) (by simp; omega))
        have hfC : Fr (fun i => i = M') wB wC := Fr.undrew ((Fr.of_grown hgC).mono (fun i _ hi => by simpa using hi.symm))
        clear o1 o2 w0 hupC
        have o1 : okV wC.drew (.pointer (some ⟨E, 0, none⟩)) 20 = true := hEC.rd.1
        have o2 : rdV wC.drew (.pointer (some ⟨E, 0, none⟩)) 20 = idArr k := hEC.rd.2
        obtain ⟨csC, k1, k2, k3, k4⟩ := hWC
        go_upto_region 14 with fail
        have htog := toggle_any (M' + 1) 44 1 k csC (fun _ => 0) wC.drew k1 (by omega) k4
        go_region_with (go_at_call 10; refine htog.mono ?_; rintro e wD ⟨rfl, htg⟩)
        have hWD : WrAt wD (M' + 1) M' (xorD (fun _ => 0) k) := WrAt.toggled k2 k3 htg
        have hMD : MapI wD M' [(k, E)] := MapG.same hMC (htg.2.block _ (by have := MapG.lt hMC; exact this) (by simp))
        have hSD : MapS wD mW _ := MapG.same hSC (htg.2.block _ (by have := MapG.lt hSC; exact this) (by simp; omega))
        have hfD : Fr (fun i => i = M' + 1) wC wD := Fr.undrew ((Fr.of_grown htg.2).mono (fun i _ hi => by simpa using hi.symm))
        have hfin : Fr (fun i => i = mW) w5 wD := Fr.late (Fr.late hfB hfC (by omega)) hfD (by omega)
        go_wp2_with fail
        exact bodyPost_end (v := .tuple #[]) (by simp [results, Yba.results9]) rfl ⟨rfl, hm5.fresh hb0 (by omega) (by omega) hSD ⟨hWD, hMD⟩ hfin hof⟩
      · simp only [Option.map_some, ptrO, ptr] at hl
        obtain ⟨hk2, hm2, hn2, hd2⟩ := hm5.nw s2 rfl
        have w0 := hk2.1.cell
        go_upto_region 13 with fail
        have o1 : okV w5.drew (.pointer (some ⟨E, 0, none⟩)) 20 = true := hm5.ent.rd.1
        have o2 : rdV w5.drew (.pointer (some ⟨E, 0, none⟩)) 20 = idArr k := hm5.ent.rd.2
        obtain ⟨w6, hupd, hM6, hg6, hz6⟩ := MapG.store (w := w5.drew) idSet (MapG.same hk2.2 rfl) Yba.underlying28 hn2 hk E
        simp only [ptr] at hupd
        go_region
        have hE6 : EntAt w6 E k by_ := hm5.ent.same (hg6.block _ (by exact hm5.ent.lt) (by simpa using (hm5.ent.neW hk2).2))
        have hw6 : WrAt w6 s2.W s2.M s2.d := hk2.1.same (hg6.block _ (by exact hk2.1.lt) (by simpa using hk2.ne))
        have hf6 : Fr (fun i => i = s2.M) w5 w6 := Fr.undrew ((Fr.of_grown hg6).mono (fun i _ hi => by simpa using hi.symm))
        clear hupd hg6 o1 o2 w0 i0 i16 hl
        have o1 : okV w6.drew (.pointer (some ⟨E, 0, none⟩)) 20 = true := hE6.rd.1
        have o2 : rdV w6.drew (.pointer (some ⟨E, 0, none⟩)) 20 = idArr k := hE6.rd.2
        obtain ⟨cs6, k1, k2, k3, k4⟩ := hw6
        go_upto_region 14 with fail
        have htog := toggle_any s2.W 44 1 k cs6 s2.d w6.drew k1 (by omega) k4
        go_region_with (go_at_call 10; refine htog.mono ?_; rintro e w7 ⟨rfl, htg⟩)
        have hw7 : WrAt w7 s2.W s2.M (xorD s2.d k) := WrAt.toggled k2 k3 htg
        have hf7 : Fr (fun i => i = s2.W) w6 w7 := Fr.undrew ((Fr.of_grown htg.2).mono (fun i _ hi => by simpa using hi.symm))
        go_wp2_with fail
        exact bodyPost_end (v := .tuple #[]) (by simp [results, Yba.results9]) rfl ⟨rfl, hm5.had hb0 hM6 hf6 hw7 hf7⟩


set_option maxHeartbeats 1000000 in
/-- The entry is that writer's already. -/
theorem attr_same (I mE mW E k : Nat) (by_ : ByteArray) (w : World) (hI : IdxAt w I mE mW) (hE : EntAt w E k by_) : Calls Yba.prog 9 #[ptr I, ptr E, .string by_] w fun e w' => e = .returned (.tuple #[]) ∧ w' = w := by
  obtain ⟨i0, i16⟩ := hI.cells
  obtain ⟨ec, e30, ef⟩ := hE.cells
  clear ec
  have hbe : (by_.toList == by_.toList) = true := by simp
  simp only [ptr]
  go_enter Yba.func9, Yba.ntmps9
  go_wp2_with fail
  exact bodyPost_ret (v := .tuple #[]) (by simp [results, Yba.results9]) rfl ⟨rfl, rfl⟩

end Go.Proofs.Ybulkdiba
