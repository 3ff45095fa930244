import Derived.Test.YbulkdibaEq
import Derived.LaidEqlPtr
namespace Go.Proofs.Ybulkdiba
open Go.RowKit Go.Maps
set_option linter.unusedVariables false

/-- The slice of records grows: nothing that the last loop looks at turns. -/
theorem Fin.grow {w w' : World} {I mE mW : Nat} {GA : List Rec} {WL : List (ByteArray × Nat)} {created : Option Nat} {rv : Value} {n : Nat} {xs : List Value} (h : Fin w I mE mW GA WL created) (hrow : w.ownsRow 0 39 1 rv n xs) (hf : Fr (fun x => rv.ownBlock = some x) w w') : Fin w' I mE mW GA WL created := by
  have ne : ∀ x, (∀ cs, w.heap[x]? ≠ some (.cells cs 39 (0, 0))) → ¬ rv.ownBlock = some x := by
    intro x hx hs
    obtain ⟨cs, hc⟩ := owns_type hrow hs
    exact hx cs hc
  refine ⟨h.idx.same (hf.block _ h.idx.lt (ne _ fun cs hc => ?_)), MapG.same h.me (hf.block _ (MapG.lt h.me) (ne _ fun cs hc => cells_ne_map hc h.me rfl)), MapG.same h.map (hf.block _ (MapG.lt h.map) (ne _ fun cs hc => cells_ne_mapS hc h.map rfl)), fun r hr => (h.all r hr).same fun x hx => hf.block x ((h.all r hr).lt hx) (ne _ fun cs hc => (h.all r hr).nblk hc (by decide) hx), h.val, h.cnt⟩
  obtain ⟨ds, hd, _⟩ := h.idx
  exact types_ne hc hd (by decide) rfl

def cntG (GA : List Rec) (i : Nat) : Nat := ((GA.take i).filter fun r => !r.gone).length

theorem cntG_succ (GA : List Rec) (i : Nat) (h : i < GA.length) : cntG GA (i + 1) = cntG GA i + (if (GA[i]).gone then 0 else 1) := by
  unfold cntG
  rw [List.take_succ_eq_append_getElem h, List.filter_append, List.length_append]
  congr 1
  cases hg : (GA[i]).gone <;> simp [hg]

theorem cntG_le (GA : List Rec) (i : Nat) : cntG GA i ≤ GA.length := by
  unfold cntG
  exact Nat.le_trans (List.length_filter_le _ _) (List.length_take_le' _ _)

theorem cntG_all {w : World} {I mE mW : Nat} {GA : List Rec} {WL : List (ByteArray × Nat)} {created : Option Nat} (h : Fin w I mE mW GA WL created) : cntG GA GA.length = WL.length := by
  unfold cntG
  rw [List.take_length, h.cnt]

/-- What stands in a place of a map's list is what the map answers. -/
theorem getL_place : ∀ (L : List (Nat × Nat)), (L.map (·.1)).Nodup → ∀ i (hi : i < L.length), getL (L[i]).1 L = some (L[i]).2
  | [], _, i, hi => by simp at hi
  | x :: L, hn, 0, hi => by simp [getL]
  | x :: L, hn, i + 1, hi => by
    simp only [List.map_cons, List.nodup_cons] at hn
    have hm : (L[i]'(by simpa using hi)).1 ∈ L.map (·.1) := List.mem_map.2 ⟨_, List.getElem_mem _, rfl⟩
    have hne : x.1 ≠ (L[i]'(by simpa using hi)).1 := fun e => hn.1 (e ▸ hm)
    simp only [List.getElem_cons_succ, getL, if_neg hne]
    exact getL_place L hn.2 i (by simpa using hi)

theorem MapI.place {w : World} {b : Nat} {L : List (Nat × Nat)} (h : MapI w b L) (i : Nat) (hi : i < L.length) : getL (L[i]).1 L = some (L[i]).2 ∧ (L[i]).1 < 256 :=
  ⟨getL_place L h.1 i hi, h.2.1 _ (List.getElem_mem hi)⟩

theorem WrAt.rd {w : World} {W M : Nat} {d : Nat → Int} (h : WrAt w W M d) : okV w (.pointer (some ⟨W, 1, none⟩)) 20 = true ∧ rdV w (.pointer (some ⟨W, 1, none⟩)) 20 = arr20 d :=
  rd20 fun i hi => by obtain ⟨cs, h, _, _, h1⟩ := h; rw [cell_of_row w W _ cs 44 (0, 0) h]; exact h1 i hi
theorem RecAt.rd {w : World} {R : Nat} {addr : ByteArray} {wp : Option Nat} {kv pv : Value} {dig : Nat → Int} {gone : Bool} (h : RecAt w R addr wp kv pv dig gone) : okV w (.pointer (some ⟨R, 4, none⟩)) 20 = true ∧ rdV w (.pointer (some ⟨R, 4, none⟩)) 20 = arr20 dig :=
  rd20 fun i hi => by obtain ⟨cs, h, _, _, _, _, _, h1, _⟩ := h; rw [cell_of_row w R _ cs 47 (0, 0) h]; exact h1 i hi

def adO (o : Option Nat) : Option Addr := o.map fun b => ⟨b, 0, none⟩
theorem ptrO_eq (o : Option Nat) : ptrO o = .pointer (adO o) := by cases o <;> rfl

theorem Yba.info47 : (Yba.prog.info? 47).map (·.size) = some 25 := by kernel_rfl
theorem Yba.info44 : (Yba.prog.info? 44).map (·.size) = some 21 := by kernel_rfl
theorem Yba.info57 : (Yba.prog.info? 57).map (·.size) = some 34 := by kernel_rfl

theorem neq_same {tp te : TypeId} {n : Nat} (hp : Yba.prog.underlying tp = some (.pointer te)) (hi : (Yba.prog.info? te).map (·.size) = some n) (a : Addr) (w : World) : (binOp .neq tp (.pointer (some a)) (.pointer (some a))).run Yba.prog w = .ok (.bool false) w := by
  obtain ⟨j, hj⟩ := some_of_map hi
  have h : ∀ d : Nat, (Op.equalIn (d + 1) tp (.pointer (some a)) (.pointer (some a))).run Yba.prog w = .ok true w := fun d => by
    simp [Op.equalIn, run_underlying hp, sizeOf, typeInfo, hj, run_sameAddr_same]
  simp only [binOp]
  simp [Op.equal, Op.maxDepth, h 9999]

theorem neq_other {tp te : TypeId} {n : Nat} (hp : Yba.prog.underlying tp = some (.pointer te)) (hi : (Yba.prog.info? te).map (·.size) = some n) (hn : n ≠ 0) {a b : Addr} {ca cb : Array Value} {ta tb : TypeId} {w : World} (hne : a ≠ b) (ha : w.heap[a.block]? = some (.cells ca ta (0, 0))) (hb : w.heap[b.block]? = some (.cells cb tb (0, 0))) :
    (binOp .neq tp (.pointer (some a)) (.pointer (some b))).run Yba.prog w = .ok (.bool true) w := by
  obtain ⟨j, hj⟩ := some_of_map hi
  have hsz : j.size ≠ 0 := by rw [hj] at hi; simp at hi; omega
  have h : ∀ d : Nat, (Op.equalIn (d + 1) tp (.pointer (some a)) (.pointer (some b))).run Yba.prog w = .ok false w := fun d => by
    simp [Op.equalIn, run_underlying hp, sizeOf, typeInfo, hj, hsz, run_sameAddr_other w hne ha hb]
  simp only [binOp]
  simp [Op.equal, Op.maxDepth, h 9999]

/-- `r != created`, and what the record's writer is where it answers true. -/
theorem neq_rec {wA wr : World} {r : Rec} {crR : Option Nat} {pc : Option Addr} (hpc : adO crR = pc) (hcre : ∀ cN, crR = some cN → ∃ cs, wA.heap[cN]? = some (.cells cs 47 (0, 0))) (hrk : RecOk wr r) (hbr : Below wA.heap.size wA wr) (vW : r.wp = some r.s.W ∨ crR = some r.R) :
    ∃ b1 : Bool, (∀ n : Nat, (binOp .neq 39 (.pointer (some ⟨r.R, 0, none⟩)) (.pointer pc)).run Yba.prog (wr.drewN n) = .ok (.bool b1) (wr.drewN n)) ∧ (b1 = true → r.wp = some r.s.W) := by
  subst hpc
  cases crR with
  | none => exact ⟨true, fun n => run_neq_pointer_nil _ _ _ Yba.underlying39, fun _ => vW.resolve_right (fun h => by cases h)⟩
  | some cN =>
    by_cases e : r.R = cN
    · subst e
      exact ⟨false, fun n => neq_same Yba.underlying39 Yba.info47 _ _, fun h => by cases h⟩
    · refine ⟨true, fun n => ?_, fun _ => vW.resolve_right (fun h => e (Option.some.inj h).symm)⟩
      obtain ⟨cs, hc⟩ := hcre cN rfl
      obtain ⟨ds, hd, _⟩ := hrk.rc
      have hc2 := (hbr.block cN (Array.getElem?_eq_some_iff.1 hc).1).trans hc
      exact neq_other (a := ⟨r.R, 0, none⟩) (b := ⟨cN, 0, none⟩) Yba.underlying39 Yba.info47 (by decide) (fun h => e (by cases h; rfl)) hd hc2

/-- What the last loop reads of a record that is not gone. -/
structure Facts (w : World) (r : Rec) (ka pa : Option Addr) (kc pc : Nat) : Prop where
  k : w.cell? ⟨r.R, 2, none⟩ = some (.slice ka r.s.L.length kc)
  p : w.cell? ⟨r.R, 3, none⟩ = some (.slice pa r.s.L.length pc)
  m : w.cell? ⟨r.s.W, 0, none⟩ = some (.map (some r.s.M))
  kat : ∀ i (hi : i < r.s.L.length), ∃ g, ka = some ⟨g, 0, none⟩ ∧ w.cell? ⟨g, i, none⟩ = some (.int .u8 (r.s.L[i]).1)
  pat : ∀ i (hi : i < r.s.L.length), ∃ g, pa = some ⟨g, 0, none⟩ ∧ w.cell? ⟨g, i, none⟩ = some (.pointer (some ⟨(r.s.L[i]).2, 0, none⟩))
  w1 : okV w (.pointer (some ⟨r.s.W, 1, none⟩)) 20 = true ∧ rdV w (.pointer (some ⟨r.s.W, 1, none⟩)) 20 = arr20 r.s.d
  r4 : okV w (.pointer (some ⟨r.R, 4, none⟩)) 20 = true ∧ rdV w (.pointer (some ⟨r.R, 4, none⟩)) 20 = arr20 r.s.d
  few : r.s.L.length ≤ 256

theorem RecOk.facts {w : World} {r : Rec} (h : RecOk w r) (hL : r.L = r.s.L) (hD : r.dig = r.s.d) : ∃ ka pa kc pc, Facts w r ka pa kc pc ∧ ∀ w', RecOk w' r → Facts w' r ka pa kc pc := by
  have key : ∃ ka pa kc pc, r.kv = .slice ka r.s.L.length kc ∧ r.pv = .slice pa r.s.L.length pc := by
    have hk := h.ks
    have hp := h.ps
    unfold KeyRow at hk
    unfold PtrRow at hp
    rw [hL] at hk hp
    obtain ⟨ka, kc, h1, _⟩ := owns_parts hk
    obtain ⟨pa, pc, h2, _⟩ := owns_parts hp
    exact ⟨ka, pa, kc, pc, h1, h2⟩
  obtain ⟨ka, pa, kc, pc, e1, e2⟩ := key
  have all : ∀ w', RecOk w' r → Facts w' r ka pa kc pc := by
    intro w' h
    obtain ⟨r0, r1, r2, r3, r24, rf⟩ := h.rc.cells
    have hk := h.ks
    have hp := h.ps
    unfold KeyRow at hk
    unfold PtrRow at hp
    rw [hL, e1] at hk
    rw [hL, e2] at hp
    obtain ⟨ka', kc', h1, _, _, _, h1c⟩ := owns_parts hk
    obtain ⟨pa', pc', h2, _, _, _, h2c⟩ := owns_parts hp
    cases h1
    cases h2
    rw [e1] at r2
    rw [e2] at r3
    have h4 := h.rc.rd
    rw [hD] at h4
    refine ⟨r2, r3, h.wr.1.cell, fun i hi => ?_, fun i hi => ?_, h.wr.1.rd, h4, MapI.few h.wr.2⟩
    · rcases h1c with h0 | ⟨g, hg, hc⟩
      · omega
      · exact ⟨g, hg, hc i _ (by simp [hi])⟩
    · rcases h2c with h0 | ⟨g, hg, hc⟩
      · omega
      · exact ⟨g, hg, hc i _ (by simp [hi, ptr])⟩
  exact ⟨ka, pa, kc, pc, all w h, all⟩

end Go.Proofs.Ybulkdiba
