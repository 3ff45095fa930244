import Derived.Test.YbulkdibaState
import Derived.WalkSpells
namespace Go.Proofs.Ybulkdiba
open Go.RowKit Go.Maps
set_option linter.unusedVariables false

/-- A drawn writer that came in, at its cells. -/
structure SegAt (w : World) (b q : Nat) (addr : ByteArray) (ia : Option Addr) (il ic : Nat) (zs : Nat → Nat) (dg : Nat → Int) : Prop where
  a : w.cell? ⟨b, q, none⟩ = some (.string addr)
  al : addr.size ≤ maxLen
  i : w.cell? ⟨b, q + 1, none⟩ = some (.slice ia il ic)
  ile : il ≤ 9223372036854775807
  z : ∀ j, j < il → ∃ gb go, ia = some ⟨gb, go, none⟩ ∧ w.cell? ⟨gb, go + j, none⟩ = some (.int .u8 (zs j))
  zl : ∀ j, zs j < 256
  d : ∀ j, j < 20 → w.cell? ⟨b, q + 2 + j, none⟩ = some (.int .u8 (dg j))
def Seg (w : World) (b q : Nat) : Prop := ∃ addr ia il ic zs dg, SegAt w b q addr ia il ic zs dg

theorem SegAt.below {w w' : World} {b q : Nat} {addr : ByteArray} {ia : Option Addr} {il ic : Nat} {zs : Nat → Nat} {dg : Nat → Int} (h : SegAt w b q addr ia il ic zs dg) (hb : Below w.heap.size w w') : SegAt w' b q addr ia il ic zs dg := by
  have hc : ∀ (x : Addr) (v : Value), w.cell? x = some v → w'.cell? x = some v := fun x v hx => by
    exact (hb.cell (World.block_lt_of_cell? w _ hx)).trans hx
  exact ⟨hc _ _ h.a, h.al, hc _ _ h.i, h.ile, fun j hj => by obtain ⟨gb, go, e, hz⟩ := h.z j hj; exact ⟨gb, go, e, hc _ _ hz⟩, h.zl, fun j hj => hc _ _ (h.d j hj)⟩

/-- As it is built: each record says what its writer holds. -/
def Clean (G : List Rec) : Prop := ∀ r ∈ G, r.gone = false ∧ r.dig = r.s.d ∧ r.L = r.s.L ∧ r.wp = some r.s.W

theorem St.init {w w1 : World} (h : ((w.alloc (Obj.map #[] 0)).alloc (Obj.map #[] 0)).alloc (Obj.cells #[Value.map (some w.heap.size), Value.pointer none, Value.pointer none, Value.pointer none, Value.nilIface, Value.int IntKind.i64 0, Value.pointer none, Value.pointer none, Value.pointer none, Value.nilIface, Value.int IntKind.i64 0, Value.pointer none, Value.pointer none, Value.pointer none, Value.nilIface, Value.int IntKind.i64 0, Value.map (some (w.heap.size + 1))] 37) = w1) :
    St w.heap.size w1 (w.heap.size + 1 + 1) w.heap.size (w.heap.size + 1) (.slice none 0 0) [] [] ∧ Below w.heap.size w w1 := by
  subst h
  refine ⟨⟨⟨#[Value.map (some w.heap.size), Value.pointer none, Value.pointer none, Value.pointer none, Value.nilIface, Value.int IntKind.i64 0, Value.pointer none, Value.pointer none, Value.pointer none, Value.nilIface, Value.int IntKind.i64 0, Value.pointer none, Value.pointer none, Value.pointer none, Value.nilIface, Value.int IntKind.i64 0, Value.map (some (w.heap.size + 1))], ?_, rfl, rfl⟩, ?_, ?_, by omega, ?_, ?_, ⟨fun _ => none, ?_, rfl, rfl⟩, ?_, ?_, ?_⟩, ((Fr.refl (fun _ => False) w).alloc _).alloc _ |>.alloc _ |>.below (Nat.le_refl _) (fun _ h => h.elim)⟩
  · have := heap_alloc_new ((w.alloc (Obj.map #[] 0)).alloc (Obj.map #[] 0)) (Obj.cells #[Value.map (some w.heap.size), Value.pointer none, Value.pointer none, Value.pointer none, Value.nilIface, Value.int IntKind.i64 0, Value.pointer none, Value.pointer none, Value.pointer none, Value.nilIface, Value.int IntKind.i64 0, Value.pointer none, Value.pointer none, Value.pointer none, Value.nilIface, Value.int IntKind.i64 0, Value.map (some (w.heap.size + 1))] 37)
    simpa using this
  · exact MapG.same (MapG.made w) ((Below.heap_alloc _ _ _ (by simp; omega)).trans (Below.heap_alloc _ _ _ (by simp)))
  · have := MapG.same (w' := ((w.alloc (Obj.map #[] 0)).alloc (Obj.map #[] 0)).alloc (Obj.cells #[Value.map (some w.heap.size), Value.pointer none, Value.pointer none, Value.pointer none, Value.nilIface, Value.int IntKind.i64 0, Value.pointer none, Value.pointer none, Value.pointer none, Value.nilIface, Value.int IntKind.i64 0, Value.pointer none, Value.pointer none, Value.pointer none, Value.nilIface, Value.int IntKind.i64 0, Value.map (some (w.heap.size + 1))] 37)) (MapG.made (P := Yba.prog) (K := 9) (ok := fun s : ByteArray => s.size ≤ maxLen) (val := Value.string) (w.alloc (Obj.map #[] 0))) (Below.heap_alloc _ _ _ (by simp))
    simpa [MapS] using this
  · exact ⟨rfl, .inl ⟨rfl, rfl⟩⟩
  · intro r hr; cases hr
  · intro r hr; cases hr
  · refine ⟨by omega, Nat.le_refl _, by omega, (fun b hb => by cases hb), (fun r hr => by cases hr)⟩
  · exact List.nodup_nil
  · intro r hr; cases hr

theorem made_writerD {w5 wA : World} {dg : Nat → Int} (h : (w5.alloc (Obj.map #[] 0)).alloc (Obj.cells #[Value.map (some w5.heap.size), Value.int IntKind.u8 (dg 0), Value.int IntKind.u8 (dg 1), Value.int IntKind.u8 (dg 2), Value.int IntKind.u8 (dg 3), Value.int IntKind.u8 (dg 4), Value.int IntKind.u8 (dg 5), Value.int IntKind.u8 (dg 6), Value.int IntKind.u8 (dg 7), Value.int IntKind.u8 (dg 8), Value.int IntKind.u8 (dg 9), Value.int IntKind.u8 (dg 10), Value.int IntKind.u8 (dg 11), Value.int IntKind.u8 (dg 12), Value.int IntKind.u8 (dg 13), Value.int IntKind.u8 (dg 14), Value.int IntKind.u8 (dg 15), Value.int IntKind.u8 (dg 16), Value.int IntKind.u8 (dg 17), Value.int IntKind.u8 (dg 18), Value.int IntKind.u8 (dg 19)] 44) = wA) :
    WrAt wA (w5.heap.size + 1) w5.heap.size dg ∧ MapI wA w5.heap.size [] ∧ Fr (fun _ => False) w5 wA ∧ wA.heap.size = w5.heap.size + 2 := by
  subst h
  refine ⟨⟨#[Value.map (some w5.heap.size), Value.int IntKind.u8 (dg 0), Value.int IntKind.u8 (dg 1), Value.int IntKind.u8 (dg 2), Value.int IntKind.u8 (dg 3), Value.int IntKind.u8 (dg 4), Value.int IntKind.u8 (dg 5), Value.int IntKind.u8 (dg 6), Value.int IntKind.u8 (dg 7), Value.int IntKind.u8 (dg 8), Value.int IntKind.u8 (dg 9), Value.int IntKind.u8 (dg 10), Value.int IntKind.u8 (dg 11), Value.int IntKind.u8 (dg 12), Value.int IntKind.u8 (dg 13), Value.int IntKind.u8 (dg 14), Value.int IntKind.u8 (dg 15), Value.int IntKind.u8 (dg 16), Value.int IntKind.u8 (dg 17), Value.int IntKind.u8 (dg 18), Value.int IntKind.u8 (dg 19)], ?_, rfl, rfl, ?_⟩, ?_, ((Fr.refl _ _).alloc _).alloc _, by simp⟩
  · have := heap_alloc_new (w5.alloc (Obj.map #[] 0)) (Obj.cells #[Value.map (some w5.heap.size), Value.int IntKind.u8 (dg 0), Value.int IntKind.u8 (dg 1), Value.int IntKind.u8 (dg 2), Value.int IntKind.u8 (dg 3), Value.int IntKind.u8 (dg 4), Value.int IntKind.u8 (dg 5), Value.int IntKind.u8 (dg 6), Value.int IntKind.u8 (dg 7), Value.int IntKind.u8 (dg 8), Value.int IntKind.u8 (dg 9), Value.int IntKind.u8 (dg 10), Value.int IntKind.u8 (dg 11), Value.int IntKind.u8 (dg 12), Value.int IntKind.u8 (dg 13), Value.int IntKind.u8 (dg 14), Value.int IntKind.u8 (dg 15), Value.int IntKind.u8 (dg 16), Value.int IntKind.u8 (dg 17), Value.int IntKind.u8 (dg 18), Value.int IntKind.u8 (dg 19)] 44)
    simpa using this
  · intro i hi
    match i, hi with
    | 0, _ => rfl
    | 1, _ => rfl
    | 2, _ => rfl
    | 3, _ => rfl
    | 4, _ => rfl
    | 5, _ => rfl
    | 6, _ => rfl
    | 7, _ => rfl
    | 8, _ => rfl
    | 9, _ => rfl
    | 10, _ => rfl
    | 11, _ => rfl
    | 12, _ => rfl
    | 13, _ => rfl
    | 14, _ => rfl
    | 15, _ => rfl
    | 16, _ => rfl
    | 17, _ => rfl
    | 18, _ => rfl
    | 19, _ => rfl
    | n + 20, h => exact absurd h (by omega)
  · exact MapG.same (MapG.made w5) (Below.heap_alloc _ _ _ (by simp))

theorem made_rec {w5 wA : World} {dg : Nat → Int} {addr : ByteArray} {W : Nat} (h : w5.alloc (Obj.cells #[Value.string addr, Value.pointer (some ⟨W, 0, none⟩), Value.slice none 0 0, Value.slice none 0 0, Value.int IntKind.u8 (dg 0), Value.int IntKind.u8 (dg 1), Value.int IntKind.u8 (dg 2), Value.int IntKind.u8 (dg 3), Value.int IntKind.u8 (dg 4), Value.int IntKind.u8 (dg 5), Value.int IntKind.u8 (dg 6), Value.int IntKind.u8 (dg 7), Value.int IntKind.u8 (dg 8), Value.int IntKind.u8 (dg 9), Value.int IntKind.u8 (dg 10), Value.int IntKind.u8 (dg 11), Value.int IntKind.u8 (dg 12), Value.int IntKind.u8 (dg 13), Value.int IntKind.u8 (dg 14), Value.int IntKind.u8 (dg 15), Value.int IntKind.u8 (dg 16), Value.int IntKind.u8 (dg 17), Value.int IntKind.u8 (dg 18), Value.int IntKind.u8 (dg 19), Value.bool false] 47) = wA) :
    RecAt wA w5.heap.size addr (some W) (.slice none 0 0) (.slice none 0 0) dg false ∧ KeyRow wA (.slice none 0 0) [] ∧ PtrRow wA (.slice none 0 0) [] ∧ Fr (fun _ => False) w5 wA := by
  subst h
  refine ⟨⟨#[Value.string addr, Value.pointer (some ⟨W, 0, none⟩), Value.slice none 0 0, Value.slice none 0 0, Value.int IntKind.u8 (dg 0), Value.int IntKind.u8 (dg 1), Value.int IntKind.u8 (dg 2), Value.int IntKind.u8 (dg 3), Value.int IntKind.u8 (dg 4), Value.int IntKind.u8 (dg 5), Value.int IntKind.u8 (dg 6), Value.int IntKind.u8 (dg 7), Value.int IntKind.u8 (dg 8), Value.int IntKind.u8 (dg 9), Value.int IntKind.u8 (dg 10), Value.int IntKind.u8 (dg 11), Value.int IntKind.u8 (dg 12), Value.int IntKind.u8 (dg 13), Value.int IntKind.u8 (dg 14), Value.int IntKind.u8 (dg 15), Value.int IntKind.u8 (dg 16), Value.int IntKind.u8 (dg 17), Value.int IntKind.u8 (dg 18), Value.int IntKind.u8 (dg 19), Value.bool false], heap_alloc_new _ _, rfl, rfl, rfl, rfl, rfl, ?_, rfl⟩, ⟨rfl, .inl ⟨rfl, rfl⟩⟩, ⟨rfl, .inl ⟨rfl, rfl⟩⟩, (Fr.refl _ _).alloc _⟩
  · intro i hi
    match i, hi with
    | 0, _ => rfl
    | 1, _ => rfl
    | 2, _ => rfl
    | 3, _ => rfl
    | 4, _ => rfl
    | 5, _ => rfl
    | 6, _ => rfl
    | 7, _ => rfl
    | 8, _ => rfl
    | 9, _ => rfl
    | 10, _ => rfl
    | 11, _ => rfl
    | 12, _ => rfl
    | 13, _ => rfl
    | 14, _ => rfl
    | 15, _ => rfl
    | 16, _ => rfl
    | 17, _ => rfl
    | 18, _ => rfl
    | 19, _ => rfl
    | n + 20, h => exact absurd h (by omega)

theorem below_undrew {B : Nat} {a b : World} (h : Below B a.drew b) : Below B a b := ⟨h.os, h.tape, h.output, h.size, h.block⟩

theorem RecOk.below {w w' : World} {r : Rec} {B : Nat} (h : RecOk w r) (hb : Below B w w') (hB : w.heap.size ≤ B) : RecOk w' r :=
  h.same fun x hx => hb.block x (Nat.lt_of_lt_of_le (h.lt hx) hB)

/-- A record and its writer take an entry more. -/
theorem RecOk.put {w w1 w2 w3 : World} {r : Rec} {k E N : Nat} (h : RecOk w r) (hb : Below w.heap.size w w1) (hM : MapI w2 r.s.M (putL k E r.s.L)) (hf : Fr (fun x => x = r.s.M) w1 w2) (hp : RecNew w2 w3 r.R r.addr r.wp r.kv r.pv r.dig r.gone (putL k E r.L)) (hN : N ≤ w.heap.size) (hrb : ∀ x, r.blk x → N ≤ x) :
    ∃ r', (r'.addr = r.addr ∧ r'.R = r.R ∧ r'.s.W = r.s.W ∧ r'.s.M = r.s.M ∧ r'.gone = r.gone ∧ r'.dig = r.dig ∧ r'.s.d = r.s.d ∧ r'.L = putL k E r.L ∧ r'.s.L = putL k E r.s.L ∧ r'.wp = r.wp) ∧ RecOk w3 r' ∧ (∀ x, r'.blk x → N ≤ x) ∧ (∀ x, r'.blk x → r.blk x ∨ w.heap.size ≤ x) ∧ Fr r.blk w w3 := by
  obtain ⟨⟨kv, pv, hrec, hk, hpp, lk, lp⟩, hfp⟩ := hp
  have h1 := h.below hb (Nat.le_refl _)
  have hw12 := hf.size
  have hle := hb.size
  have neW := h1.wr.ne
  have hW2 : WrAt w2 r.s.W r.s.M r.s.d := h1.wr.1.same (hf.block _ h1.wr.1.lt neW)
  have nW : ¬ (r.s.W = r.R ∨ r.kv.ownBlock = some r.s.W ∨ r.pv.ownBlock = some r.s.W) := by
    obtain ⟨⟨cs, hc, _⟩, _⟩ := h1.wr
    rintro (e | e | e)
    · obtain ⟨ds, hd, _⟩ := h1.rc; exact types_ne hc hd (by decide) e
    · obtain ⟨ds, hd⟩ := owns_type h1.ks e; exact types_ne hc hd (by decide) rfl
    · obtain ⟨ds, hd⟩ := owns_type h1.ps e; exact types_ne hc hd (by decide) rfl
  have nM : ¬ (r.s.M = r.R ∨ r.kv.ownBlock = some r.s.M ∨ r.pv.ownBlock = some r.s.M) := by
    rintro (e | e | e)
    · obtain ⟨ds, hd, _⟩ := h1.rc; exact cells_ne_map hd h1.wr.2 e.symm
    · obtain ⟨ds, hd⟩ := owns_type h1.ks e; exact cells_ne_map hd h1.wr.2 rfl
    · obtain ⟨ds, hd⟩ := owns_type h1.ps e; exact cells_ne_map hd h1.wr.2 rfl
  have hloc : ∀ x, (Rec.mk r.addr r.R r.wp kv pv r.dig r.gone (putL k E r.L) ⟨r.s.W, r.s.M, r.s.d, putL k E r.s.L⟩).blk x → r.blk x ∨ w.heap.size ≤ x := by
    rintro x (e | e | e | e | e)
    · exact .inl (.inl e)
    · rcases lk x e with e | e
      · exact .inl (.inr (.inl e))
      · exact .inr (by omega)
    · rcases lp x e with e | e
      · exact .inl (.inr (.inr (.inl e)))
      · exact .inr (by omega)
    · exact .inl (.inr (.inr (.inr (.inl e))))
    · exact .inl (.inr (.inr (.inr (.inr e))))
  refine ⟨⟨r.addr, r.R, r.wp, kv, pv, r.dig, r.gone, putL k E r.L, ⟨r.s.W, r.s.M, r.s.d, putL k E r.s.L⟩⟩, ⟨rfl, rfl, rfl, rfl, rfl, rfl, rfl, rfl, rfl, rfl⟩, ⟨hrec, hk, hpp, ?_, ?_⟩, fun x hx => ?_, hloc, ?_⟩
  · exact hW2.same (hfp.block _ hW2.lt nW)
  · exact MapG.same hM (hfp.block _ (MapG.lt hM) nM)
  · rcases hloc x hx with e | e
    · exact hrb x e
    · omega
  · have f1 : Fr r.blk w w1 := Fr.of_below hb _
    refine (f1.trans (hf.mono fun i _ hi => .inr (.inr (.inr (.inr hi))))).trans (hfp.mono fun i _ hi => ?_)
    rcases hi with e | e | e
    · exact .inl e
    · exact .inr (.inl e)
    · exact .inr (.inr (.inl e))

end Go.Proofs.Ybulkdiba
