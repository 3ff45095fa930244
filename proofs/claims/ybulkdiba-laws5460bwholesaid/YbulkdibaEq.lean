import Derived.Test.YbulkdibaFinal
import Derived.ChangeKeysEq
namespace Go.Proofs.Ybulkdiba
open Go.RowKit Go.Maps
set_option linter.unusedVariables false

def arr20 (d : Nat → Int) : Array Value := ((List.range 20).map fun i => Value.int .u8 (d i)).toArray
theorem idArr_20 (k : Nat) : idArr k = arr20 (fun i => (idb k i : Int)) := rfl

theorem arr20_at (d : Nat → Int) (i : Nat) (hi : i < 20) : (arr20 d)[i]? = some (.int .u8 (d i)) := by simp [arr20, hi]

theorem items_refl (m : Nat) (f : Nat → Int) : ∀ (is : List Nat) (w : World), (∀ i ∈ is, i < 20) → (Op.eqItems (m + 1) 5 1 (arr20 f) (arr20 f) is).run Yba.prog w = .ok true w
  | [], w, _ => by simp [Op.eqItems]
  | i :: is, w, h => by
    have hp : ∀ w, (part 5 (arr20 f) i).run Yba.prog w = .ok (.int .u8 (f i)) w := fun w => by
      have h1 := arr20_at f i (h i (by simp))
      have h2 : (arr20 f)[i]! = .int .u8 (f i) := by rw [getElem!_def, h1]
      simp [part, Yba.isAgg5, h1]
    have e : ∀ w, (Op.equalIn (m + 1) 5 (.int .u8 (f i)) (.int .u8 (f i))).run Yba.prog w = .ok true w := fun w => by
      rw [run_equalIn_int w m 5 .u8 .u8 (f i) (f i) Yba.underlying5]; simp
    simp [Op.eqItems, hp, e, items_refl m f is w (fun j hj => h j (by simp [hj]))]

theorem Yba.cells5 : Yba.prog.cellsOf 5 = 1 := by kernel_rfl
theorem refl20 {ty : TypeId} (hu : Yba.prog.underlying ty = some (.array 20 5)) (m : Nat) (f : Nat → Int) (w : World) : (Op.equalIn (m + 2) ty (.agg (arr20 f)) (.agg (arr20 f))).run Yba.prog w = .ok true w := by
  obtain ⟨i, hi, _⟩ := info_parts Yba.info5
  rw [run_equalIn_array w (m + 1) _ _ hu hi, Yba.cells5]
  exact items_refl m f _ w (fun i hi => by simpa using hi)

theorem refl49 (k : Nat) (w : World) : (Op.equalIn 10000 49 (.agg (idArr k)) (.agg (idArr k))).run Yba.prog w = .ok true w := refl20 Yba.underlying49 9998 _ w
theorem refl42 (f : Nat → Int) (w : World) : (Op.equalIn 10000 42 (.agg (arr20 f)) (.agg (arr20 f))).run Yba.prog w = .ok true w := refl20 Yba.underlying42 9998 f w

theorem rd20 {w : World} {b o : Nat} {f : Nat → Int} (h : ∀ i, i < 20 → w.cell? ⟨b, o + i, none⟩ = some (.int .u8 (f i))) : okV w (.pointer (some ⟨b, o, none⟩)) 20 = true ∧ rdV w (.pointer (some ⟨b, o, none⟩)) 20 = arr20 f := rd_of h

theorem Yba.guard49 : Yba.prog.eqGuardType Yba.prog.depth 49 = false := by kernel_rfl
theorem Yba.guard42 : Yba.prog.eqGuardType Yba.prog.depth 42 = false := by kernel_rfl

def eqV (u v : Value) : Prop := u = v ∧ ∃ f, u = .agg (arr20 f)
theorem eqV_id (k : Nat) : eqV (.agg (idArr k)) (.agg (idArr k)) := ⟨rfl, _, rfl⟩
theorem eqV_20 (f : Nat → Int) : eqV (.agg (arr20 f)) (.agg (arr20 f)) := ⟨rfl, f, rfl⟩

theorem run_neq {ty : TypeId} (hu : Yba.prog.underlying ty = some (.array 20 5)) (f : Nat → Int) (w : World) : (binOp .neq ty (.agg (arr20 f)) (.agg (arr20 f))).run Yba.prog w = .ok (.bool false) w := by
  have h := refl20 hu 9998 f
  simp [binOp, Op.equal, Op.maxDepth, h]

theorem exec_neq {ty : TypeId} (hu : Yba.prog.underlying ty = some (.array 20 5)) (hg : Yba.prog.eqGuardType Yba.prog.depth ty = false) (ρ : Operand → Value) (dst : Option Tmp) (x y : Operand) (t ty' : TypeId) (pos : String) (after : Array Edge) (guard : Option (Nat × Bool)) (w : World) (h : eqV (ρ x) (ρ y)) :
    Sem.run Yba.prog (execOp ρ { dst := dst, op := Op.binOp BinOp.neq ty x y ty', type := t, pos := pos, after := after, guard := guard }) w = .ok (.value (.bool false)) w := by
  obtain ⟨h1, f, h2⟩ := h
  have h3 : ρ y = .agg (arr20 f) := by rw [← h1, h2]
  simp [execOp, h2, h3, eqGuard, hg, run_neq hu, Result.andThen]

theorem exec_neq49 (ρ : Operand → Value) (dst : Option Tmp) (x y : Operand) (t ty' : TypeId) (pos : String) (after : Array Edge) (guard : Option (Nat × Bool)) (w : World) (h : eqV (ρ x) (ρ y)) :
    Sem.run Yba.prog (execOp ρ { dst := dst, op := Op.binOp BinOp.neq 49 x y ty', type := t, pos := pos, after := after, guard := guard }) w = .ok (.value (.bool false)) w := exec_neq Yba.underlying49 Yba.guard49 ρ dst x y t ty' pos after guard w h
theorem exec_neq42 (ρ : Operand → Value) (dst : Option Tmp) (x y : Operand) (t ty' : TypeId) (pos : String) (after : Array Edge) (guard : Option (Nat × Bool)) (w : World) (h : eqV (ρ x) (ρ y)) :
    Sem.run Yba.prog (execOp ρ { dst := dst, op := Op.binOp BinOp.neq 42 x y ty', type := t, pos := pos, after := after, guard := guard }) w = .ok (.value (.bool false)) w := exec_neq Yba.underlying42 Yba.guard42 ρ dst x y t ty' pos after guard w h
theorem wp_neq49 (dst : Option Tmp) (x y : Operand) (t ty' : TypeId) (pos : String) (after : Array Edge) (guard : Option (Nat × Bool)) (a : Act) (w : World) (K : Act → World → Prop) (Q : Exit → Act → World → Prop) (h : eqV (a.eval x) (a.eval y)) :
    Oper.wp Yba.prog { dst := dst, op := Op.binOp BinOp.neq 49 x y ty', type := t, pos := pos, after := after, guard := guard } a w K Q = K (a.put dst (.bool false)) w := by
  unfold Oper.wp
  rw [exec_neq49 a.eval dst x y t ty' pos after guard w h]
  rfl
theorem wp_neq42 (dst : Option Tmp) (x y : Operand) (t ty' : TypeId) (pos : String) (after : Array Edge) (guard : Option (Nat × Bool)) (a : Act) (w : World) (K : Act → World → Prop) (Q : Exit → Act → World → Prop) (h : eqV (a.eval x) (a.eval y)) :
    Oper.wp Yba.prog { dst := dst, op := Op.binOp BinOp.neq 42 x y ty', type := t, pos := pos, after := after, guard := guard } a w K Q = K (a.put dst (.bool false)) w := by
  unfold Oper.wp
  rw [exec_neq42 a.eval dst x y t ty' pos after guard w h]
  rfl

/-- 'attribute', as the law calls it. -/
theorem Mod.call {B : Nat} {w0 w : World} {I mE mW : Nat} {rv : Value} {G G2 : List Rec} {eid E : Nat} {eby by_ : ByteArray} {cr : Option Rec} (h : Mod B w0 I mE mW rv G eid E eby by_ G2 cr w) (hcl : Clean G) (hn : (G.map (·.addr)).Nodup) (hGl : G.length ≤ 4096) (he : eid < 256) (hle : eby.size ≤ maxLen) (hlb : by_.size ≤ maxLen) (hBE : B ≤ E) :
    Calls Yba.prog 9 #[ptr I, ptr E, .string by_] w fun e w' => e = .returned (.tuple #[]) ∧ ∃ (G3 : List Rec) (c3 : Option Rec) (WL' : List (ByteArray × Nat)), Fin w' I mE mW (G3 ++ c3.toList) WL' (cr.map (·.R)) ∧ w'.ownsRow 0 39 1 rv G3.length (G3.map fun r => ptr r.R) ∧ G3.length ≤ 4096 ∧ c3.map (·.R) = cr.map (·.R) ∧ EntAt w' E eid by_ ∧ Below B w0 w' ∧ (∀ b, rv.ownBlock = some b → B ≤ b) := by
  have hG2l : G2.length ≤ 4096 := by obtain ⟨f, hG, _⟩ := h.f; rw [hG]; simpa using hGl
  have hrv := h.st.low.2.2.2.1
  by_cases heq : eby = by_
  · have hent := h.ent
    rw [heq] at hent
    refine (attr_same I mE mW E eid by_ w h.st.idx hent).mono ?_
    rintro e w' ⟨rfl, rfl⟩
    have hcr : cr = none := by
      cases hc : cr with
      | none => rfl
      | some c => exact absurd heq (h.new c hc).2.2.1
    refine ⟨rfl, G2, none, wl G, ?_, h.st.row, hG2l, by (rw [hcr]), hent, h.bel, hrv⟩
    have := h.fin0 hcl hn heq
    rw [hcr]; simpa using this
  · obtain ⟨hpo, hpn⟩ := h.pre heq
    have hold : getL eby (wl G) = ((look eby G).map (·.s)).map (·.W) := by
      show getL eby (G.map fun r => (r.addr, r.s.W)) = _
      rw [getL_look]; cases look eby G <;> rfl
    have hnw : getL by_ (wl G) = ((look by_ G).map (·.s)).map (·.W) := by
      show getL by_ (G.map fun r => (r.addr, r.s.W)) = _
      rw [getL_look]; cases look by_ G <;> rfl
    refine (attr_any I mE mW E eid eby by_ (wl G) ((look eby G).map (·.s)) ((look by_ G).map (·.s)) w he hle hlb heq (by simp [wl, maxLen]; omega) h.st.idx h.ent h.st.map hold hpo hnw hpn).mono ?_
    rintro e w' ⟨rfl, hA⟩
    obtain ⟨G3, c3, WL', h1, h2, h3, h4⟩ := h.fin hcl hn heq hlb hA
    refine ⟨rfl, G3, c3, WL', h1, h2, by omega, h4, hA.ent, h.bel.trans (hA.fr.below h.st.size ?_), hrv⟩
    obtain ⟨f, hG, hf⟩ := h.f
    have hlow : ∀ a s, (look a G).map (·.s) = some s → B ≤ s.W ∧ B ≤ s.M := by
      intro a s hs
      cases hl : look a G with
      | none => rw [hl] at hs; cases hs
      | some q =>
        rw [hl] at hs
        simp only [Option.map_some, Option.some.injEq] at hs
        obtain ⟨hq, _⟩ := look_some hl
        have hl2 := h.st.low.2.2.2.2 (f q) (by rw [hG]; exact List.mem_map.2 ⟨q, hq, rfl⟩)
        simp only [Rec.blk, (hf q hq).2.2.2.1, hs] at hl2
        exact ⟨hl2 _ (.inr (.inr (.inr (.inl rfl)))), hl2 _ (.inr (.inr (.inr (.inr rfl))))⟩
    rintro i ((e | ⟨s, hs, e | e⟩) | e | ⟨_, s, hs, e | e⟩)
    · rw [e]; exact h.st.low.2.2.1
    · rw [e]; exact (hlow _ s hs).1
    · rw [e]; exact (hlow _ s hs).2
    · rw [e]; exact hBE
    · rw [e]; exact (hlow _ s hs).1
    · rw [e]; exact (hlow _ s hs).2

end Go.Proofs.Ybulkdiba
