import Derived.Test.YbulkdibaAttr
namespace Go.Proofs.Ybulkdiba
open Go.RowKit Go.Maps
set_option linter.unusedVariables false

/-- A record of the law's own model, beside the writer that it stands for. -/
structure Rec where
  addr : ByteArray
  R : Nat
  wp : Option Nat
  kv : Value
  pv : Value
  dig : Nat → Int
  gone : Bool
  L : List (Nat × Nat)
  s : WrS

def Rec.blk (r : Rec) (x : Nat) : Prop := x = r.R ∨ r.kv.ownBlock = some x ∨ r.pv.ownBlock = some x ∨ x = r.s.W ∨ x = r.s.M

structure RecOk (w : World) (r : Rec) : Prop where
  rc : RecAt w r.R r.addr r.wp r.kv r.pv r.dig r.gone
  ks : KeyRow w r.kv r.L
  ps : PtrRow w r.pv r.L
  wr : WrOk w r.s

theorem RecOk.same {w w' : World} {r : Rec} (h : RecOk w r) (hb : ∀ x, r.blk x → w'.heap[x]? = w.heap[x]?) : RecOk w' r :=
  ⟨h.rc.same (hb _ (.inl rfl)), owns_same h.ks (fun b hk => hb b (.inr (.inl hk))), owns_same h.ps (fun b hk => hb b (.inr (.inr (.inl hk)))),
    h.wr.same (hb _ (.inr (.inr (.inr (.inl rfl))))) (hb _ (.inr (.inr (.inr (.inr rfl)))))⟩

theorem RecOk.lt {w : World} {r : Rec} (h : RecOk w r) {x : Nat} (hx : r.blk x) : x < w.heap.size := by
  rcases hx with rfl | hk | hp | rfl | rfl
  · exact h.rc.lt
  · obtain ⟨cs, hc⟩ := owns_type h.ks hk; exact (Array.getElem?_eq_some_iff.1 hc).1
  · obtain ⟨cs, hc⟩ := owns_type h.ps hp; exact (Array.getElem?_eq_some_iff.1 hc).1
  · exact h.wr.1.lt
  · exact MapG.lt h.wr.2

/-- A block of another type is none of a record's. -/
theorem RecOk.nblk {w : World} {r : Rec} (h : RecOk w r) {x : Nat} {cs : Array Value} {t : TypeId} (hx : w.heap[x]? = some (.cells cs t (0, 0))) (ht : t ≠ 47 ∧ t ≠ 5 ∧ t ≠ 48 ∧ t ≠ 44) : ¬ r.blk x := by
  rintro (rfl | hk | hp | rfl | rfl)
  · obtain ⟨ds, hd, _⟩ := h.rc; exact types_ne hx hd ht.1 rfl
  · obtain ⟨ds, hd⟩ := owns_type h.ks hk; exact types_ne hx hd ht.2.1 rfl
  · obtain ⟨ds, hd⟩ := owns_type h.ps hp; exact types_ne hx hd ht.2.2.1 rfl
  · obtain ⟨⟨ds, hd, _⟩, _⟩ := h.wr; exact types_ne hx hd ht.2.2.2 rfl
  · exact cells_ne_map hx h.wr.2 rfl

/-- The index, the records and all that they lead to. -/
structure St (B : Nat) (w : World) (I mE mW : Nat) (rv : Value) (G : List Rec) (WL : List (ByteArray × Nat)) : Prop where
  idx : IdxAt w I mE mW
  me : MapI w mE []
  map : MapS w mW WL
  mne : mE ≠ mW
  row : w.ownsRow 0 39 1 rv G.length (G.map fun r => ptr r.R)
  all : ∀ r ∈ G, RecOk w r
  own : ∃ ow : Nat → Option ByteArray, (∀ r ∈ G, ∀ x, r.blk x → ow x = some r.addr) ∧ ow mW = none ∧ ow mE = none
  low : B ≤ I ∧ B ≤ mE ∧ B ≤ mW ∧ (∀ b, rv.ownBlock = some b → B ≤ b) ∧ ∀ r ∈ G, ∀ x, r.blk x → B ≤ x
  nod : (G.map (·.addr)).Nodup
  len : ∀ r ∈ G, r.addr.size ≤ maxLen

theorem St.size {B : Nat} {w : World} {I mE mW : Nat} {rv : Value} {G : List Rec} {WL : List (ByteArray × Nat)} (h : St B w I mE mW rv G WL) : B ≤ w.heap.size := by
  have := h.idx.lt; have := h.low.1; omega

theorem owns_lt {w : World} {B : Nat} {e : TypeId} {v : Value} {n : Nat} {xs : List Value} (h : w.ownsRow B e 1 v n xs) {b : Nat} (hb : v.ownBlock = some b) : b < w.heap.size := by
  obtain ⟨cs, hc⟩ := owns_type h hb; exact (Array.getElem?_eq_some_iff.1 hc).1

section
variable {B : Nat} {w w' : World} {I mE mW : Nat} {rv : Value} {G : List Rec} {WL WL' : List (ByteArray × Nat)} {S : Nat → Prop}

/-- What a step may turn: the index's map of writers, an entry, what a record leads to. -/
def May (w : World) (mW : Nat) (G : List Rec) (x : Nat) : Prop := x = mW ∨ (∃ cs, w.heap[x]? = some (.cells cs 57 (0, 0))) ∨ ∃ r ∈ G, r.blk x

theorem St.turn (h : St B w I mE mW rv G WL) (hf : Fr S w w') (hS : ∀ x, x < w.heap.size → S x → May w mW G x) (f : Rec → Rec) (a : ByteArray)
    (hfa : ∀ r ∈ G, (f r).addr = r.addr ∧ (f r).R = r.R) (hfb : ∀ r ∈ G, ∀ x, (f r).blk x → r.blk x ∨ (w.heap.size ≤ x ∧ r.addr = a)) (hall : ∀ r ∈ G, RecOk w' (f r)) (hmap : MapS w' mW WL') :
    St B w' I mE mW rv (G.map f) WL' := by
  obtain ⟨ow, ho, hoW, hoE⟩ := h.own
  have hsz := h.size
  have nI : ¬ S I := by
    intro hs
    obtain ⟨cs, hc, _⟩ := h.idx
    rcases hS I h.idx.lt hs with e | ⟨ds, hd⟩ | ⟨r, hr, hb⟩
    · exact h.idx.neS h.map e
    · exact types_ne hc hd (by decide) rfl
    · exact (h.all r hr).nblk hc (by decide) hb
  have nE : ¬ S mE := by
    intro hs
    rcases hS mE (MapG.lt h.me) hs with e | ⟨ds, hd⟩ | ⟨r, hr, hb⟩
    · exact h.mne e
    · exact cells_ne_map hd h.me rfl
    · have := ho r hr mE hb; rw [hoE] at this; cases this
  have nR : ∀ b, rv.ownBlock = some b → ¬ S b := by
    intro b hb hs
    obtain ⟨cs, hc⟩ := owns_type h.row hb
    rcases hS b (owns_lt h.row hb) hs with rfl | ⟨ds, hd⟩ | ⟨r, hr, hb⟩
    · exact cells_ne_mapS hc h.map rfl
    · exact types_ne hc hd (by decide) rfl
    · exact (h.all r hr).nblk hc (by decide) hb
  have hmWlt := MapG.lt h.map
  have hmElt := MapG.lt h.me
  refine ⟨h.idx.same (hf.block _ h.idx.lt nI), MapG.same h.me (hf.block _ hmElt nE), hmap, h.mne, ?_, ?_, ?_, ?_, ?_, ?_⟩
  · have := owns_same h.row (fun b hb => hf.block b (owns_lt h.row hb) (nR b hb))
    have e : (G.map f).map (fun r => ptr r.R) = G.map fun r => ptr r.R := by
      rw [List.map_map]; exact List.map_congr_left fun r hr => by simp [(hfa r hr).2]
    rw [e, List.length_map]; exact this
  · intro r hr
    obtain ⟨q, hq, rfl⟩ := List.mem_map.1 hr
    exact hall q hq
  · refine ⟨fun x => if x < w.heap.size then ow x else some a, fun r hr x hx => ?_, by simp only [hmWlt, if_true]; exact hoW, by simp only [hmElt, if_true]; exact hoE⟩
    obtain ⟨q, hq, rfl⟩ := List.mem_map.1 hr
    rw [(hfa q hq).1]
    rcases hfb q hq x hx with hb | ⟨hge, ha⟩
    · simp only [(h.all q hq).lt hb, if_true]; exact ho q hq x hb
    · show (if x < w.heap.size then ow x else some a) = _
      rw [if_neg (by omega), ha]
  · refine ⟨h.low.1, h.low.2.1, h.low.2.2.1, h.low.2.2.2.1, fun r hr x hx => ?_⟩
    obtain ⟨q, hq, rfl⟩ := List.mem_map.1 hr
    rcases hfb q hq x hx with hb | ⟨hge, _⟩
    · exact h.low.2.2.2.2 q hq x hb
    · omega
  · have e : (G.map f).map (·.addr) = G.map (·.addr) := by
      rw [List.map_map]; exact List.map_congr_left fun r hr => (hfa r hr).1
    rw [e]; exact h.nod
  · intro r hr
    obtain ⟨q, hq, rfl⟩ := List.mem_map.1 hr
    rw [(hfa q hq).1]; exact h.len q hq

theorem St.keep (h : St B w I mE mW rv G WL) (hf : Fr (fun _ => False) w w') : St B w' I mE mW rv G WL := by
  have := h.turn hf (fun x _ hx => hx.elim) id ByteArray.empty (fun r _ => ⟨rfl, rfl⟩) (fun r _ x hx => .inl hx) (fun r hr => (h.all r hr).same fun x hx => hf.block x ((h.all r hr).lt hx) (fun h => h)) (MapG.same h.map (hf.block _ (MapG.lt h.map) (fun h => h)))
  simpa using this

theorem St.uniq (h : St B w I mE mW rv G WL) {r q : Rec} (hr : r ∈ G) (hq : q ∈ G) (e : r.addr = q.addr) : r = q := by
  have := h.nod
  clear h
  induction G with
  | nil => cases hr
  | cons x G ih =>
    simp only [List.map_cons, List.nodup_cons] at this
    rcases List.mem_cons.1 hr with rfl | hr'
    · rcases List.mem_cons.1 hq with rfl | hq'
      · rfl
      · exact absurd (List.mem_map.2 ⟨q, hq', e.symm⟩) this.1
    · rcases List.mem_cons.1 hq with rfl | hq'
      · exact absurd (List.mem_map.2 ⟨r, hr', e⟩) this.1
      · exact ih hr' hq' this.2

/-- Two records share nothing. -/
theorem St.apart (h : St B w I mE mW rv G WL) {r q : Rec} (hr : r ∈ G) (hq : q ∈ G) (e : r.addr ≠ q.addr) {x : Nat} (hx : r.blk x) : ¬ q.blk x := by
  obtain ⟨ow, ho, _⟩ := h.own
  intro hy
  exact e (Option.some.inj ((ho r hr x hx).symm.trans (ho q hq x hy)))
theorem St.notW (h : St B w I mE mW rv G WL) {r : Rec} (hr : r ∈ G) : ¬ r.blk mW := by
  obtain ⟨ow, ho, hw, _⟩ := h.own
  intro hy
  have := ho r hr _ hy
  rw [hw] at this; cases this

/-- A step that turns what one record leads to. -/
theorem St.one (h : St B w I mE mW rv G WL) {r : Rec} (hr : r ∈ G) (hf : Fr r.blk w w') (r' : Rec) (ha : r'.addr = r.addr) (hR : r'.R = r.R) (hb : ∀ x, r'.blk x → r.blk x ∨ w.heap.size ≤ x) (hk : RecOk w' r') :
    St B w' I mE mW rv (G.map fun q => if q.addr = r.addr then r' else q) WL := by
  have hfa : ∀ q ∈ G, (if q.addr = r.addr then r' else q).addr = q.addr ∧ (if q.addr = r.addr then r' else q).R = q.R := by
    intro q hq
    by_cases e : q.addr = r.addr
    · rw [if_pos e, h.uniq hq hr e]; exact ⟨ha, hR⟩
    · rw [if_neg e]; exact ⟨rfl, rfl⟩
  refine h.turn hf (fun x _ hx => .inr (.inr ⟨r, hr, hx⟩)) _ r.addr hfa ?_ ?_ (MapG.same h.map (hf.block _ (MapG.lt h.map) (h.notW hr)))
  · intro q hq x hx
    by_cases e : q.addr = r.addr
    · rw [if_pos e] at hx
      rcases hb x hx with h1 | h1
      · rw [h.uniq hq hr e]; exact .inl h1
      · exact .inr ⟨h1, e⟩
    · rw [if_neg e] at hx; exact .inl hx
  · intro q hq
    by_cases e : q.addr = r.addr
    · rw [if_pos e]; exact hk
    · rw [if_neg e]
      exact (h.all q hq).same fun x hx => hf.block x ((h.all q hq).lt hx) (h.apart hq hr e hx)

/-- A new record and its writer, all of it younger than N. -/
theorem St.push (h : St B w I mE mW rv G WL) {rv' : Value} {r : Rec} {N : Nat} (hN : ∀ q ∈ G, ∀ x, q.blk x → x < N) (hW : mW < N) (hE : mE < N) (hBN : B ≤ N) (hr : RecOk w r) (hrb : ∀ x, r.blk x → N ≤ x) (hfresh : r.addr ∉ G.map (·.addr)) (hlen : r.addr.size ≤ maxLen)
    (hrow : w'.ownsRow 0 39 1 rv' (G.length + 1) ((G.map fun r => ptr r.R) ++ [ptr r.R])) (hf : Fr (fun x => rv.ownBlock = some x) w w') (hloc : ∀ b, rv'.ownBlock = some b → rv.ownBlock = some b ∨ w.heap.size ≤ b) : St B w' I mE mW rv' (G ++ [r]) WL := by
  obtain ⟨ow, ho, hoW, hoE⟩ := h.own
  have hsz := h.size
  have ne : ∀ x, (∀ cs, w.heap[x]? ≠ some (.cells cs 39 (0, 0))) → ¬ rv.ownBlock = some x := by
    intro x hx hs
    obtain ⟨cs, hc⟩ := owns_type h.row hs
    exact hx cs hc
  have nW : ¬ rv.ownBlock = some mW := ne _ (fun cs hc => cells_ne_mapS hc h.map rfl)
  have nE : ¬ rv.ownBlock = some mE := ne _ (fun cs hc => cells_ne_map hc h.me rfl)
  have nI : ¬ rv.ownBlock = some I := ne _ (fun cs hc => by obtain ⟨ds, hd, _⟩ := h.idx; exact types_ne hc hd (by decide) rfl)
  have nB : ∀ q, RecOk w q → ∀ x, q.blk x → ¬ rv.ownBlock = some x := fun q hq x hx => ne _ (fun cs hc => hq.nblk hc (by decide) hx)
  refine ⟨h.idx.same (hf.block _ h.idx.lt nI), MapG.same h.me (hf.block _ (MapG.lt h.me) nE), MapG.same h.map (hf.block _ (MapG.lt h.map) nW), h.mne, by simpa using hrow, ?_, ?_, ?_, ?_, ?_⟩
  · intro q hq
    rcases List.mem_append.1 hq with hq | hq
    · exact (h.all q hq).same fun x hx => hf.block x ((h.all q hq).lt hx) (nB q (h.all q hq) x hx)
    · obtain rfl := List.mem_singleton.1 hq
      exact hr.same fun x hx => hf.block x (hr.lt hx) (nB q hr x hx)
  · refine ⟨fun x => if x < N then ow x else some r.addr, fun q hq x hx => ?_, by simp only [hW, if_true]; exact hoW, by simp only [hE, if_true]; exact hoE⟩
    rcases List.mem_append.1 hq with hq | hq
    · simp only [hN q hq x hx, if_true]; exact ho q hq x hx
    · obtain rfl := List.mem_singleton.1 hq
      show (if x < N then ow x else some q.addr) = _
      rw [if_neg (by have := hrb x hx; omega)]
  · refine ⟨h.low.1, h.low.2.1, h.low.2.2.1, fun b hb => ?_, fun q hq x hx => ?_⟩
    · rcases hloc b hb with h1 | h1
      · exact h.low.2.2.2.1 b h1
      · omega
    · rcases List.mem_append.1 hq with hq | hq
      · exact h.low.2.2.2.2 q hq x hx
      · obtain rfl := List.mem_singleton.1 hq
        have := hrb x hx; omega
  · rw [List.map_append, List.nodup_append]
    refine ⟨h.nod, by simp, fun a ha b hb e => ?_⟩
    simp only [List.map_cons, List.map_nil, List.mem_singleton] at hb
    exact hfresh (by rw [← hb, ← e]; exact ha)
  · intro q hq
    rcases List.mem_append.1 hq with hq | hq
    · exact h.len q hq
    · obtain rfl := List.mem_singleton.1 hq; exact hlen

/-- The index's map of writers is turned. -/
theorem St.remap (h : St B w I mE mW rv G WL) (hf : Fr (fun x => x = mW) w w') (hmap : MapS w' mW WL') : St B w' I mE mW rv G WL' := by
  have := h.turn hf (fun x _ hx => .inl hx) id ByteArray.empty (fun r _ => ⟨rfl, rfl⟩) (fun r _ x hx => .inl hx) (fun r hr => (h.all r hr).same fun x hx => hf.block x ((h.all r hr).lt hx) (fun e => h.notW hr (e ▸ hx))) hmap
  simpa using this
end

/-! ### Looking a record up -/
def look (a : ByteArray) : List Rec → Option Rec
  | [] => none
  | r :: G => if r.addr = a then some r else look a G

theorem getL_look (a : ByteArray) (f : Rec → Nat) : ∀ G : List Rec, getL a (G.map fun r => (r.addr, f r)) = (look a G).map f
  | [] => rfl
  | r :: G => by
    simp only [List.map_cons, getL, look]
    by_cases h : r.addr = a
    · rw [if_pos h, if_pos h]; rfl
    · rw [if_neg h, if_neg h]; exact getL_look a f G

theorem look_some {a : ByteArray} {r : Rec} : ∀ {G : List Rec}, look a G = some r → r ∈ G ∧ r.addr = a
  | [], h => by cases h
  | q :: G, h => by
    simp only [look] at h
    by_cases e : q.addr = a
    · rw [if_pos e] at h; cases h; exact ⟨List.mem_cons_self .., e⟩
    · rw [if_neg e] at h; exact ⟨List.mem_cons_of_mem _ (look_some h).1, (look_some h).2⟩

theorem look_none {a : ByteArray} : ∀ {G : List Rec}, look a G = none → ∀ r ∈ G, r.addr ≠ a
  | [], _, r, hr => by cases hr
  | q :: G, h, r, hr => by
    simp only [look] at h
    by_cases e : q.addr = a
    · rw [if_pos e] at h; cases h
    · rw [if_neg e] at h
      rcases List.mem_cons.1 hr with rfl | hr
      · exact e
      · exact look_none h r hr

theorem look_map {a : ByteArray} (f : Rec → Rec) : ∀ {G : List Rec}, (∀ r ∈ G, (f r).addr = r.addr) → look a (G.map f) = (look a G).map f
  | [], _ => rfl
  | q :: G, h => by
    simp only [List.map_cons, look]
    rw [h q (List.mem_cons_self ..)]
    by_cases e : q.addr = a
    · rw [if_pos e, if_pos e]; rfl
    · rw [if_neg e, if_neg e]; exact look_map f (fun r hr => h r (List.mem_cons_of_mem _ hr))

def fl (G : List Rec) : List (ByteArray × Nat) := G.map fun r => (r.addr, r.R)
def wl (G : List Rec) : List (ByteArray × Nat) := G.map fun r => (r.addr, r.s.W)

theorem St.finds {B : Nat} {w : World} {I mE mW : Nat} {rv : Value} {G : List Rec} {WL : List (ByteArray × Nat)} (h : St B w I mE mW rv G WL) : Finds w rv (fl G) := by
  refine ⟨?_, ?_⟩
  · have := h.row
    simpa [fl, List.map_map, Function.comp_def] using this
  · intro x hx
    obtain ⟨r, hr, rfl⟩ := List.mem_map.1 hx
    exact (h.all r hr).rc.cells.1

theorem putL_fresh {a : ByteArray} {p : Nat} : ∀ {L : List (ByteArray × Nat)}, a ∉ L.map (·.1) → putL a p L = L ++ [(a, p)]
  | [], _ => rfl
  | x :: L, h => by
    simp only [List.map_cons, List.mem_cons, not_or] at h
    simp only [putL, if_neg (fun e => h.1 (Eq.symm e)), List.cons_append]
    rw [putL_fresh h.2]

theorem nodup_le : ∀ (n : Nat) (L : List Nat), L.Nodup → (∀ x ∈ L, x < n) → L.length ≤ n
  | 0, [], _, _ => Nat.le_refl _
  | 0, x :: L, _, h => absurd (h x (List.mem_cons_self ..)) (by omega)
  | n + 1, L, hn, h => by
    have h1 := nodup_le n (L.erase n) (hn.erase n) (fun x hx => by
      have h2 := h x (List.mem_of_mem_erase hx)
      have h3 : x ≠ n := fun e => by rw [e] at hx; exact (hn.not_mem_erase) hx
      omega)
    by_cases hm : n ∈ L
    · rw [List.length_erase_of_mem hm] at h1; omega
    · rw [List.erase_of_not_mem hm] at h1; omega

/-- A map by identifiers holds 256 at the most. -/
theorem MapI.few {w : World} {b : Nat} {L : List (Nat × Nat)} (h : MapI w b L) : L.length ≤ 256 := by
  obtain ⟨h1, h2, _⟩ := h
  have := nodup_le 256 (L.map (·.1)) h1 (fun x hx => by obtain ⟨y, hy, rfl⟩ := List.mem_map.1 hx; exact h2 y hy)
  simpa using this

end Go.Proofs.Ybulkdiba
